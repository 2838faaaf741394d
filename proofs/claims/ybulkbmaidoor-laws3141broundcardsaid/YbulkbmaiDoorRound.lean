/- The law 'LawS3141BRound': the walk. -/
import Derived.Test.YbulkbmaiDoorUnit
import Derived.Test.YbulkbmaiDoorSrc
import Derived.WalkSmall
import Derived.BigRegion
import Derived.Deep.QuietTactic
import Derived.BigQuiet
namespace Go.Proofs.YbulkbmaiDoor
open Go.RowKit
set_option linter.unusedVariables false

theorem wraps_u16 (n : Int) (h₀ : 0 ≤ n) (h₁ : n < 2 ^ 16) : IntKind.u16.wrap n = n := by rw [IntKind.wrap_u16]; omega
theorem u16_and15 (x : Int) (h₀ : 0 ≤ x) (h₁ : x < 65536) : bits .and .u16 x 15 = x % 16 := bits_mask .u16 16 (by decide) wraps_u16 4 (by decide) x h₀ h₁

/-- The escape's six bytes, and the world with their row. -/
def escL (x0 x1 x2 x3 : Int) : List Int := [92, 117, x0, x1, x2, x3]
theorem esc_cells {w w2 : World} {x0 x1 x2 x3 : Int} (hb : Below (w.heap.size + 1) (w.alloc (.cells #[.int .u8 92, .int .u8 117, .int .u8 x0, .int .u8 x1, .int .u8 x2, .int .u8 x3] 5)).drew w2) (k : Nat) :
    ∀ ad, some (⟨w.heap.size, 0, none⟩ : Addr) = some ad → ∀ j u, (((escL x0 x1 x2 x3).take k).map (Value.int .u8))[j]? = some u → w2.cell? (ad.add j) = some u := by
  intro ad had j u hu
  obtain rfl := Option.some.inj had
  have hj : j < 6 := by
    have := (List.getElem?_eq_some_iff.1 hu).1
    simp [escL] at this
    omega
  rw [Addr.add_lit, hb.cell (p := ⟨w.heap.size, 0 + j, none⟩) (by simp)]
  have hu' : ((escL x0 x1 x2 x3).map (Value.int .u8))[j]? = some u := by
    rw [List.map_take, List.getElem?_take] at hu
    split at hu
    · exact hu
    · simp at hu
  show (w.alloc _).cell? _ = _
  rw [Nat.zero_add, World.cell?_alloc_new]
  rw [← hu']
  simp [escL]
theorem old_cells {w w2 : World} {o : Obj} (hb : Below (w.heap.size + 1) (w.alloc o).drew w2) (b off : Nat) (h : b < w.heap.size) : w2.cell? ⟨b, off, none⟩ = w.cell? ⟨b, off, none⟩ :=
  (hb.cell (p := ⟨b, off, none⟩) (by show b < _; omega)).trans (World.cell?_alloc_lt _ _ _ h)

set_option maxHeartbeats 1000000 in
theorem round_up_cut (ao bo : Option Addr) (n1 c1 n2 c2 : Nat) (z1 z2 : List Int) (v : Nat) (a0 a1 a2 a3 k : Nat) (x0 x1 x2 x3 : Int) (kp : Int) (ev : Value) (w : World) (hn1 : n1 ≤ 4096) (hn2 : n2 ≤ 4096) (hv1 : v ≤ 65535) (hk0 : 0 ≤ kp) (hk1 : kp ≤ 255)
    (e0 : bits .and .u16 ((v : Int) / 4096) 15 = (a0 : Int)) (e1 : bits .and .u16 ((v : Int) / 256) 15 = (a1 : Int)) (e2 : bits .and .u16 ((v : Int) / 16) 15 = (a2 : Int)) (e3 : bits .and .u16 (v : Int) 15 = (a3 : Int))
    (h0 : a0 < 16) (h1 : a1 < 16) (h2 : a2 < 16) (h3 : a3 < 16)
    (r0 : (((⟨#[48, 49, 50, 51, 52, 53, 54, 55, 56, 57, 65, 66, 67, 68, 69, 70]⟩ : ByteArray)[a0]'h0).toNat : Int) = x0)
    (r1 : (((⟨#[48, 49, 50, 51, 52, 53, 54, 55, 56, 57, 65, 66, 67, 68, 69, 70]⟩ : ByteArray)[a1]'h1).toNat : Int) = x1)
    (r2 : (((⟨#[48, 49, 50, 51, 52, 53, 54, 55, 56, 57, 65, 66, 67, 68, 69, 70]⟩ : ByteArray)[a2]'h2).toNat : Int) = x2)
    (r3 : (((⟨#[48, 49, 50, 51, 52, 53, 54, 55, 56, 57, 65, 66, 67, 68, 69, 70]⟩ : ByteArray)[a3]'h3).toNat : Int) = x3)
    (ek : kp % 7 = (k : Int)) (hk6 : k < 6)
    (s1 : Src w w.heap.size ao n1 c1 z1) (s2 : Src w w.heap.size bo n2 c2 z2) 
    (hc : w.cell? ⟨0, 0, none⟩ = some ev) (hev : ev = .nilIface ∨ ∃ te pe, ev = .iface te pe) :
    Calls Ybad.prog 4 #[.slice ao n1 c1, .int .u16 (v : Int), .bool true, .int .u8 kp, .slice bo n2 c2] w fun e w' => e = .returned (.bool true) ∧ Below w.heap.size w w' := by
  have hl1 : ¬ (4096 : Int) < (n1 : Int) := by omega
  have hl2 : ¬ (4096 : Int) < (n2 : Int) := by omega
  have g0 : (a0 : Int) < 16 := by omega
  have g1 : (a1 : Int) < 16 := by omega
  have g2 : (a2 : Int) < 16 := by omega
  have g3 : (a3 : Int) < 16 := by omega
  obtain ⟨i0, hi, hz0, hz1, hz2⟩ := info_parts info5
  have hb7 : ∀ o : Obj, Below w.heap.size w (w.alloc o).drew := fun o => ((Below.refl _ _).alloc (Nat.le_refl _) o).drew
  go_enter Ybad.func4, Ybad.ntmps4
  go_wp2
  go_region
  clear e0 e1 e2 e3 h0 h1 h2 h3 r0 r1 r2 r3 g0 g1 g2 g3
  go_wp2_with (first
    | (at_make; refine wpList_make_own _ rfl _ _ 22 rfl (w.heap.size + 1) 5 i0 (.int .u8 0) 1 Ybad.underlying22 hi hz0 hz1 _ _ _ (n1 + 6 + n2) rfl rfl (by omega) (by rw [hz2]; omega) (by unfold maxLen; omega) (by simp) ?_; intro w1 hown1 hgr1; have hb1 := (Below.refl (w.heap.size + 1) _).grown hgr1 (by simp) (by simp); simp only [World.size_drew, World.size_alloc] at hown1; clear hgr1)
    | (at_builtin; refine wpList_append_fits_any _ rfl (.tmp 58) (.tmp 59) 22 rfl (w.heap.size + 1) 5 i0 1 Ybad.underlying22 hi hz1 _ _ _ _ rfl hown1 ao n1 c1 (z1.map (Value.int .u8)) rfl (by rw [List.length_map, s1.2.1]; omega) s1.1 (s1.cells (old_cells hb1)) (ints_oneCell _ _) (by omega) ?_; intro w2 hown2 hgr2; have hb2 := hb1.grown hgr2 (Nat.le_of_lt (hown1.lt _ rfl).2) (by intro q hq; cases hq; exact Nat.le_refl _); simp only [Nat.zero_add, List.nil_append] at hown2; clear hgr2 hown1)
    | (at_builtin; refine wpList_append_fits_any _ rfl (.tmp 61) (.tmp 64) 22 rfl (w.heap.size + 1) 5 i0 1 Ybad.underlying22 hi hz1 _ _ _ _ rfl hown2 (some ⟨w.heap.size, 0, none⟩) k 6 (((escL x0 x1 x2 x3).take k).map (Value.int .u8)) rfl (by simp [escL]; omega) (by simp) (esc_cells hb2 k) (ints_oneCell _ _) (by omega) ?_; intro w3 hown3 hgr3; have hb3 := hb2.grown hgr3 (Nat.le_of_lt (hown2.lt _ rfl).2) (by intro q hq; cases hq; exact Nat.le_refl _); clear hgr3 hown2))
  refine (unit_short w3.heap.size (n1 + k) (n1 + 6 + n2) n1 (some ⟨w.heap.size + 1, 0, none⟩) _ (by omega) (by omega) (by omega) (by simp)).mono ?_
  rintro e w5 ⟨rfl, rfl⟩
  have hbw : Below w.heap.size w w3 := (hb7 _).trans (hb3.mono (by omega))
  go_wp2
  go_ret
  exact ⟨rfl, hbw.alloc hbw.size _⟩

set_option maxHeartbeats 1000000 in
theorem round_up_whole (ao bo : Option Addr) (n1 c1 n2 c2 : Nat) (z1 z2 : List Int) (v : Nat) (a0 a1 a2 a3  : Nat) (x0 x1 x2 x3 : Int) (kp : Int) (ev : Value) (w : World) (hn1 : n1 ≤ 4096) (hn2 : n2 ≤ 4096) (hv1 : v ≤ 65535) (hk0 : 0 ≤ kp) (hk1 : kp ≤ 255)
    (e0 : bits .and .u16 ((v : Int) / 4096) 15 = (a0 : Int)) (e1 : bits .and .u16 ((v : Int) / 256) 15 = (a1 : Int)) (e2 : bits .and .u16 ((v : Int) / 16) 15 = (a2 : Int)) (e3 : bits .and .u16 (v : Int) 15 = (a3 : Int))
    (h0 : a0 < 16) (h1 : a1 < 16) (h2 : a2 < 16) (h3 : a3 < 16)
    (r0 : (((⟨#[48, 49, 50, 51, 52, 53, 54, 55, 56, 57, 65, 66, 67, 68, 69, 70]⟩ : ByteArray)[a0]'h0).toNat : Int) = x0)
    (r1 : (((⟨#[48, 49, 50, 51, 52, 53, 54, 55, 56, 57, 65, 66, 67, 68, 69, 70]⟩ : ByteArray)[a1]'h1).toNat : Int) = x1)
    (r2 : (((⟨#[48, 49, 50, 51, 52, 53, 54, 55, 56, 57, 65, 66, 67, 68, 69, 70]⟩ : ByteArray)[a2]'h2).toNat : Int) = x2)
    (r3 : (((⟨#[48, 49, 50, 51, 52, 53, 54, 55, 56, 57, 65, 66, 67, 68, 69, 70]⟩ : ByteArray)[a3]'h3).toNat : Int) = x3)
    (ek : kp % 7 = 6) 
    (s1 : Src w w.heap.size ao n1 c1 z1) (s2 : Src w w.heap.size bo n2 c2 z2) (hx : hexV 0 ([x0, x1, x2, x3].map Int.toNat) = some v) (hxr : ∀ x ∈ [x0, x1, x2, x3], 0 ≤ x ∧ x ≤ 255)
    (hc : w.cell? ⟨0, 0, none⟩ = some ev) (hev : ev = .nilIface ∨ ∃ te pe, ev = .iface te pe) :
    Calls Ybad.prog 4 #[.slice ao n1 c1, .int .u16 (v : Int), .bool true, .int .u8 kp, .slice bo n2 c2] w fun e w' => e = .returned (.bool true) ∧ Below w.heap.size w w' := by
  have hl1 : ¬ (4096 : Int) < (n1 : Int) := by omega
  have hl2 : ¬ (4096 : Int) < (n2 : Int) := by omega
  have g0 : (a0 : Int) < 16 := by omega
  have g1 : (a1 : Int) < 16 := by omega
  have g2 : (a2 : Int) < 16 := by omega
  have g3 : (a3 : Int) < 16 := by omega
  obtain ⟨i0, hi, hz0, hz1, hz2⟩ := info_parts info5
  have hb7 : ∀ o : Obj, Below w.heap.size w (w.alloc o).drew := fun o => ((Below.refl _ _).alloc (Nat.le_refl _) o).drew
  have HX : Hid (hexV 0 ([x0, x1, x2, x3].map Int.toNat) = some v ∧ ∀ x ∈ [x0, x1, x2, x3], 0 ≤ x ∧ x ≤ 255) := ⟨hx, hxr⟩
  clear hx hxr
  go_enter Ybad.func4, Ybad.ntmps4
  go_wp2
  go_region
  clear e0 e1 e2 e3 h0 h1 h2 h3 r0 r1 r2 r3 g0 g1 g2 g3
  go_wp2_with (first
    | (at_make; refine wpList_make_own _ rfl _ _ 22 rfl (w.heap.size + 1) 5 i0 (.int .u8 0) 1 Ybad.underlying22 hi hz0 hz1 _ _ _ (n1 + 6 + n2) rfl rfl (by omega) (by rw [hz2]; omega) (by unfold maxLen; omega) (by simp) ?_; intro w1 hown1 hgr1; have hb1 := (Below.refl (w.heap.size + 1) _).grown hgr1 (by simp) (by simp); simp only [World.size_drew, World.size_alloc] at hown1; clear hgr1)
    | (at_builtin; refine wpList_append_fits_any _ rfl (.tmp 58) (.tmp 59) 22 rfl (w.heap.size + 1) 5 i0 1 Ybad.underlying22 hi hz1 _ _ _ _ rfl hown1 ao n1 c1 (z1.map (Value.int .u8)) rfl (by rw [List.length_map, s1.2.1]; omega) s1.1 (s1.cells (old_cells hb1)) (ints_oneCell _ _) (by omega) ?_; intro w2 hown2 hgr2; have hb2 := hb1.grown hgr2 (Nat.le_of_lt (hown1.lt _ rfl).2) (by intro q hq; cases hq; exact Nat.le_refl _); simp only [Nat.zero_add, List.nil_append] at hown2; clear hgr2 hown1)
    | (at_builtin; refine wpList_append_fits_any _ rfl (.tmp 61) (.tmp 64) 22 rfl (w.heap.size + 1) 5 i0 1 Ybad.underlying22 hi hz1 _ _ _ _ rfl hown2 (some ⟨w.heap.size, 0, none⟩) 6 6 (((escL x0 x1 x2 x3).take 6).map (Value.int .u8)) rfl (by simp [escL]) (by simp) (esc_cells hb2 6) (ints_oneCell _ _) (by omega) ?_; intro w3 hown3 hgr3; have hb3 := hb2.grown hgr3 (Nat.le_of_lt (hown2.lt _ rfl).2) (by intro q hq; cases hq; exact Nat.le_refl _); clear hgr3 hown2)
    | (at_builtin; refine wpList_append_fits_any _ rfl (.tmp 68) (.tmp 69) 22 rfl (w.heap.size + 1) 5 i0 1 Ybad.underlying22 hi hz1 _ _ _ _ rfl hown3 bo n2 c2 (z2.map (Value.int .u8)) rfl (by rw [List.length_map, s2.2.1]; omega) s2.1 (s2.cells (old_cells hb3)) (ints_oneCell _ _) (by omega) ?_; intro w4 hown4 hgr4; have hb4 := hb3.grown hgr4 (Nat.le_of_lt (hown3.lt _ rfl).2) (by intro q hq; cases hq; exact Nat.le_refl _); clear hgr4 hown3))
  have hbw : Below w.heap.size w w4 := (hb7 _).trans (hb4.mono (by omega))
  rw [← List.map_append, ← List.map_append] at hown4
  have hlt4 : w.heap.size + 1 < w4.heap.size := (hown4.lt _ rfl).2
  have hz1l := s1.2.1
  have hd : ∀ j x, (z1 ++ List.take 6 (escL x0 x1 x2 x3) ++ z2)[j]? = some x → ∀ o : Obj, (w4.alloc o).cell? ⟨w.heap.size + 1, j, none⟩ = some (.int .u8 x) := fun j x hx o => (World.cell?_alloc_lt _ _ _ hlt4).trans (row_cell hown4 j x hx)
  have hxx : ∀ j x, (escL x0 x1 x2 x3)[j]? = some x → (z1 ++ List.take 6 (escL x0 x1 x2 x3) ++ z2)[n1 + j]? = some x := by
    intro j x hj
    have hj6 := (List.getElem?_eq_some_iff.1 hj).1
    have e6 : List.take 6 (escL x0 x1 x2 x3) = escL x0 x1 x2 x3 := rfl
    rw [e6, List.append_assoc, List.getElem?_append_right (by omega), hz1l, Nat.add_sub_cancel_left, List.getElem?_append_left hj6]
    exact hj
  refine (unit_hex w4.heap.size (w.heap.size + 1) 0 (n1 + 6 + n2) (n1 + 6 + n2) n1 [x0, x1, x2, x3] ev _ (by omega) (by omega) (by omega) (by simp) ?_ ?_ rfl HX.out.2 ?_ ?_ hev).mono ?_
  · rw [Nat.zero_add]
    exact hd _ _ (hxx 0 92 rfl) _
  · rw [Nat.zero_add]
    exact hd _ _ (hxx 1 117 rfl) _
  · intro j hj
    rw [Nat.zero_add, Nat.add_assoc n1 2 j]
    refine hd _ _ (hxx (2 + j) _ ?_) _
    rcases (show j = 0 ∨ j = 1 ∨ j = 2 ∨ j = 3 by omega) with rfl | rfl | rfl | rfl <;> rfl
  · have h0 : 0 < w.heap.size := World.block_lt_of_cell? _ _ hc
    rw [World.cell?_alloc_lt _ _ _ (show (0 : Nat) < w4.heap.size by omega), hbw.cell (p := ⟨0, 0, none⟩) h0]
    exact hc
  · rw [HX.out.1]
    clear HX hd hxx hown4 hb4 hb3 hb2 hb1
    rintro e w5 ⟨rfl, hb5⟩
    have k0 : w5.cell? ⟨w4.heap.size, 0, none⟩ = some (.slice (some ⟨w.heap.size + 1, 0, none⟩) (n1 + 6 + n2) (n1 + 6 + n2)) := by
      rw [hb5.cell (p := ⟨w4.heap.size, 0, none⟩) (by simp)]
      simp
    have k1 : w5.cell? ⟨w4.heap.size, 1, none⟩ = some (.int .i64 3) := by
      rw [hb5.cell (p := ⟨w4.heap.size, 1, none⟩) (by simp)]
      simp
    have hfin : Below w.heap.size w w5 := (hbw.alloc hbw.size _).trans (hb5.mono (by simp; omega))
    clear hb5
    go_wp2
    go_ret
    exact ⟨rfl, hfin⟩

set_option maxHeartbeats 1000000 in
theorem round_low_cut (ao bo : Option Addr) (n1 c1 n2 c2 : Nat) (z1 z2 : List Int) (v : Nat) (a0 a1 a2 a3 k : Nat) (x0 x1 x2 x3 : Int) (kp : Int) (ev : Value) (w : World) (hn1 : n1 ≤ 4096) (hn2 : n2 ≤ 4096) (hv1 : v ≤ 65535) (hk0 : 0 ≤ kp) (hk1 : kp ≤ 255)
    (e0 : bits .and .u16 ((v : Int) / 4096) 15 = (a0 : Int)) (e1 : bits .and .u16 ((v : Int) / 256) 15 = (a1 : Int)) (e2 : bits .and .u16 ((v : Int) / 16) 15 = (a2 : Int)) (e3 : bits .and .u16 (v : Int) 15 = (a3 : Int))
    (h0 : a0 < 16) (h1 : a1 < 16) (h2 : a2 < 16) (h3 : a3 < 16)
    (r0 : (((⟨#[48, 49, 50, 51, 52, 53, 54, 55, 56, 57, 97, 98, 99, 100, 101, 102]⟩ : ByteArray)[a0]'h0).toNat : Int) = x0)
    (r1 : (((⟨#[48, 49, 50, 51, 52, 53, 54, 55, 56, 57, 97, 98, 99, 100, 101, 102]⟩ : ByteArray)[a1]'h1).toNat : Int) = x1)
    (r2 : (((⟨#[48, 49, 50, 51, 52, 53, 54, 55, 56, 57, 97, 98, 99, 100, 101, 102]⟩ : ByteArray)[a2]'h2).toNat : Int) = x2)
    (r3 : (((⟨#[48, 49, 50, 51, 52, 53, 54, 55, 56, 57, 97, 98, 99, 100, 101, 102]⟩ : ByteArray)[a3]'h3).toNat : Int) = x3)
    (ek : kp % 7 = (k : Int)) (hk6 : k < 6)
    (s1 : Src w w.heap.size ao n1 c1 z1) (s2 : Src w w.heap.size bo n2 c2 z2) 
    (hc : w.cell? ⟨0, 0, none⟩ = some ev) (hev : ev = .nilIface ∨ ∃ te pe, ev = .iface te pe) :
    Calls Ybad.prog 4 #[.slice ao n1 c1, .int .u16 (v : Int), .bool false, .int .u8 kp, .slice bo n2 c2] w fun e w' => e = .returned (.bool true) ∧ Below w.heap.size w w' := by
  have hl1 : ¬ (4096 : Int) < (n1 : Int) := by omega
  have hl2 : ¬ (4096 : Int) < (n2 : Int) := by omega
  have g0 : (a0 : Int) < 16 := by omega
  have g1 : (a1 : Int) < 16 := by omega
  have g2 : (a2 : Int) < 16 := by omega
  have g3 : (a3 : Int) < 16 := by omega
  obtain ⟨i0, hi, hz0, hz1, hz2⟩ := info_parts info5
  have hb7 : ∀ o : Obj, Below w.heap.size w (w.alloc o).drew := fun o => ((Below.refl _ _).alloc (Nat.le_refl _) o).drew
  go_enter Ybad.func4, Ybad.ntmps4
  go_wp2
  go_region
  clear e0 e1 e2 e3 h0 h1 h2 h3 r0 r1 r2 r3 g0 g1 g2 g3
  go_wp2_with (first
    | (at_make; refine wpList_make_own _ rfl _ _ 22 rfl (w.heap.size + 1) 5 i0 (.int .u8 0) 1 Ybad.underlying22 hi hz0 hz1 _ _ _ (n1 + 6 + n2) rfl rfl (by omega) (by rw [hz2]; omega) (by unfold maxLen; omega) (by simp) ?_; intro w1 hown1 hgr1; have hb1 := (Below.refl (w.heap.size + 1) _).grown hgr1 (by simp) (by simp); simp only [World.size_drew, World.size_alloc] at hown1; clear hgr1)
    | (at_builtin; refine wpList_append_fits_any _ rfl (.tmp 58) (.tmp 59) 22 rfl (w.heap.size + 1) 5 i0 1 Ybad.underlying22 hi hz1 _ _ _ _ rfl hown1 ao n1 c1 (z1.map (Value.int .u8)) rfl (by rw [List.length_map, s1.2.1]; omega) s1.1 (s1.cells (old_cells hb1)) (ints_oneCell _ _) (by omega) ?_; intro w2 hown2 hgr2; have hb2 := hb1.grown hgr2 (Nat.le_of_lt (hown1.lt _ rfl).2) (by intro q hq; cases hq; exact Nat.le_refl _); simp only [Nat.zero_add, List.nil_append] at hown2; clear hgr2 hown1)
    | (at_builtin; refine wpList_append_fits_any _ rfl (.tmp 61) (.tmp 64) 22 rfl (w.heap.size + 1) 5 i0 1 Ybad.underlying22 hi hz1 _ _ _ _ rfl hown2 (some ⟨w.heap.size, 0, none⟩) k 6 (((escL x0 x1 x2 x3).take k).map (Value.int .u8)) rfl (by simp [escL]; omega) (by simp) (esc_cells hb2 k) (ints_oneCell _ _) (by omega) ?_; intro w3 hown3 hgr3; have hb3 := hb2.grown hgr3 (Nat.le_of_lt (hown2.lt _ rfl).2) (by intro q hq; cases hq; exact Nat.le_refl _); clear hgr3 hown2))
  refine (unit_short w3.heap.size (n1 + k) (n1 + 6 + n2) n1 (some ⟨w.heap.size + 1, 0, none⟩) _ (by omega) (by omega) (by omega) (by simp)).mono ?_
  rintro e w5 ⟨rfl, rfl⟩
  have hbw : Below w.heap.size w w3 := (hb7 _).trans (hb3.mono (by omega))
  go_wp2
  go_ret
  exact ⟨rfl, hbw.alloc hbw.size _⟩

set_option maxHeartbeats 1000000 in
theorem round_low_whole (ao bo : Option Addr) (n1 c1 n2 c2 : Nat) (z1 z2 : List Int) (v : Nat) (a0 a1 a2 a3  : Nat) (x0 x1 x2 x3 : Int) (kp : Int) (ev : Value) (w : World) (hn1 : n1 ≤ 4096) (hn2 : n2 ≤ 4096) (hv1 : v ≤ 65535) (hk0 : 0 ≤ kp) (hk1 : kp ≤ 255)
    (e0 : bits .and .u16 ((v : Int) / 4096) 15 = (a0 : Int)) (e1 : bits .and .u16 ((v : Int) / 256) 15 = (a1 : Int)) (e2 : bits .and .u16 ((v : Int) / 16) 15 = (a2 : Int)) (e3 : bits .and .u16 (v : Int) 15 = (a3 : Int))
    (h0 : a0 < 16) (h1 : a1 < 16) (h2 : a2 < 16) (h3 : a3 < 16)
    (r0 : (((⟨#[48, 49, 50, 51, 52, 53, 54, 55, 56, 57, 97, 98, 99, 100, 101, 102]⟩ : ByteArray)[a0]'h0).toNat : Int) = x0)
    (r1 : (((⟨#[48, 49, 50, 51, 52, 53, 54, 55, 56, 57, 97, 98, 99, 100, 101, 102]⟩ : ByteArray)[a1]'h1).toNat : Int) = x1)
    (r2 : (((⟨#[48, 49, 50, 51, 52, 53, 54, 55, 56, 57, 97, 98, 99, 100, 101, 102]⟩ : ByteArray)[a2]'h2).toNat : Int) = x2)
    (r3 : (((⟨#[48, 49, 50, 51, 52, 53, 54, 55, 56, 57, 97, 98, 99, 100, 101, 102]⟩ : ByteArray)[a3]'h3).toNat : Int) = x3)
    (ek : kp % 7 = 6) 
    (s1 : Src w w.heap.size ao n1 c1 z1) (s2 : Src w w.heap.size bo n2 c2 z2) (hx : hexV 0 ([x0, x1, x2, x3].map Int.toNat) = some v) (hxr : ∀ x ∈ [x0, x1, x2, x3], 0 ≤ x ∧ x ≤ 255)
    (hc : w.cell? ⟨0, 0, none⟩ = some ev) (hev : ev = .nilIface ∨ ∃ te pe, ev = .iface te pe) :
    Calls Ybad.prog 4 #[.slice ao n1 c1, .int .u16 (v : Int), .bool false, .int .u8 kp, .slice bo n2 c2] w fun e w' => e = .returned (.bool true) ∧ Below w.heap.size w w' := by
  have hl1 : ¬ (4096 : Int) < (n1 : Int) := by omega
  have hl2 : ¬ (4096 : Int) < (n2 : Int) := by omega
  have g0 : (a0 : Int) < 16 := by omega
  have g1 : (a1 : Int) < 16 := by omega
  have g2 : (a2 : Int) < 16 := by omega
  have g3 : (a3 : Int) < 16 := by omega
  obtain ⟨i0, hi, hz0, hz1, hz2⟩ := info_parts info5
  have hb7 : ∀ o : Obj, Below w.heap.size w (w.alloc o).drew := fun o => ((Below.refl _ _).alloc (Nat.le_refl _) o).drew
  have HX : Hid (hexV 0 ([x0, x1, x2, x3].map Int.toNat) = some v ∧ ∀ x ∈ [x0, x1, x2, x3], 0 ≤ x ∧ x ≤ 255) := ⟨hx, hxr⟩
  clear hx hxr
  go_enter Ybad.func4, Ybad.ntmps4
  go_wp2
  go_region
  clear e0 e1 e2 e3 h0 h1 h2 h3 r0 r1 r2 r3 g0 g1 g2 g3
  go_wp2_with (first
    | (at_make; refine wpList_make_own _ rfl _ _ 22 rfl (w.heap.size + 1) 5 i0 (.int .u8 0) 1 Ybad.underlying22 hi hz0 hz1 _ _ _ (n1 + 6 + n2) rfl rfl (by omega) (by rw [hz2]; omega) (by unfold maxLen; omega) (by simp) ?_; intro w1 hown1 hgr1; have hb1 := (Below.refl (w.heap.size + 1) _).grown hgr1 (by simp) (by simp); simp only [World.size_drew, World.size_alloc] at hown1; clear hgr1)
    | (at_builtin; refine wpList_append_fits_any _ rfl (.tmp 58) (.tmp 59) 22 rfl (w.heap.size + 1) 5 i0 1 Ybad.underlying22 hi hz1 _ _ _ _ rfl hown1 ao n1 c1 (z1.map (Value.int .u8)) rfl (by rw [List.length_map, s1.2.1]; omega) s1.1 (s1.cells (old_cells hb1)) (ints_oneCell _ _) (by omega) ?_; intro w2 hown2 hgr2; have hb2 := hb1.grown hgr2 (Nat.le_of_lt (hown1.lt _ rfl).2) (by intro q hq; cases hq; exact Nat.le_refl _); simp only [Nat.zero_add, List.nil_append] at hown2; clear hgr2 hown1)
    | (at_builtin; refine wpList_append_fits_any _ rfl (.tmp 61) (.tmp 64) 22 rfl (w.heap.size + 1) 5 i0 1 Ybad.underlying22 hi hz1 _ _ _ _ rfl hown2 (some ⟨w.heap.size, 0, none⟩) 6 6 (((escL x0 x1 x2 x3).take 6).map (Value.int .u8)) rfl (by simp [escL]) (by simp) (esc_cells hb2 6) (ints_oneCell _ _) (by omega) ?_; intro w3 hown3 hgr3; have hb3 := hb2.grown hgr3 (Nat.le_of_lt (hown2.lt _ rfl).2) (by intro q hq; cases hq; exact Nat.le_refl _); clear hgr3 hown2)
    | (at_builtin; refine wpList_append_fits_any _ rfl (.tmp 68) (.tmp 69) 22 rfl (w.heap.size + 1) 5 i0 1 Ybad.underlying22 hi hz1 _ _ _ _ rfl hown3 bo n2 c2 (z2.map (Value.int .u8)) rfl (by rw [List.length_map, s2.2.1]; omega) s2.1 (s2.cells (old_cells hb3)) (ints_oneCell _ _) (by omega) ?_; intro w4 hown4 hgr4; have hb4 := hb3.grown hgr4 (Nat.le_of_lt (hown3.lt _ rfl).2) (by intro q hq; cases hq; exact Nat.le_refl _); clear hgr4 hown3))
  have hbw : Below w.heap.size w w4 := (hb7 _).trans (hb4.mono (by omega))
  rw [← List.map_append, ← List.map_append] at hown4
  have hlt4 : w.heap.size + 1 < w4.heap.size := (hown4.lt _ rfl).2
  have hz1l := s1.2.1
  have hd : ∀ j x, (z1 ++ List.take 6 (escL x0 x1 x2 x3) ++ z2)[j]? = some x → ∀ o : Obj, (w4.alloc o).cell? ⟨w.heap.size + 1, j, none⟩ = some (.int .u8 x) := fun j x hx o => (World.cell?_alloc_lt _ _ _ hlt4).trans (row_cell hown4 j x hx)
  have hxx : ∀ j x, (escL x0 x1 x2 x3)[j]? = some x → (z1 ++ List.take 6 (escL x0 x1 x2 x3) ++ z2)[n1 + j]? = some x := by
    intro j x hj
    have hj6 := (List.getElem?_eq_some_iff.1 hj).1
    have e6 : List.take 6 (escL x0 x1 x2 x3) = escL x0 x1 x2 x3 := rfl
    rw [e6, List.append_assoc, List.getElem?_append_right (by omega), hz1l, Nat.add_sub_cancel_left, List.getElem?_append_left hj6]
    exact hj
  refine (unit_hex w4.heap.size (w.heap.size + 1) 0 (n1 + 6 + n2) (n1 + 6 + n2) n1 [x0, x1, x2, x3] ev _ (by omega) (by omega) (by omega) (by simp) ?_ ?_ rfl HX.out.2 ?_ ?_ hev).mono ?_
  · rw [Nat.zero_add]
    exact hd _ _ (hxx 0 92 rfl) _
  · rw [Nat.zero_add]
    exact hd _ _ (hxx 1 117 rfl) _
  · intro j hj
    rw [Nat.zero_add, Nat.add_assoc n1 2 j]
    refine hd _ _ (hxx (2 + j) _ ?_) _
    rcases (show j = 0 ∨ j = 1 ∨ j = 2 ∨ j = 3 by omega) with rfl | rfl | rfl | rfl <;> rfl
  · have h0 : 0 < w.heap.size := World.block_lt_of_cell? _ _ hc
    rw [World.cell?_alloc_lt _ _ _ (show (0 : Nat) < w4.heap.size by omega), hbw.cell (p := ⟨0, 0, none⟩) h0]
    exact hc
  · rw [HX.out.1]
    clear HX hd hxx hown4 hb4 hb3 hb2 hb1
    rintro e w5 ⟨rfl, hb5⟩
    have k0 : w5.cell? ⟨w4.heap.size, 0, none⟩ = some (.slice (some ⟨w.heap.size + 1, 0, none⟩) (n1 + 6 + n2) (n1 + 6 + n2)) := by
      rw [hb5.cell (p := ⟨w4.heap.size, 0, none⟩) (by simp)]
      simp
    have k1 : w5.cell? ⟨w4.heap.size, 1, none⟩ = some (.int .i64 3) := by
      rw [hb5.cell (p := ⟨w4.heap.size, 1, none⟩) (by simp)]
      simp
    have hfin : Below w.heap.size w w5 := (hbw.alloc hbw.size _).trans (hb5.mono (by simp; omega))
    clear hb5
    go_wp2
    go_ret
    exact ⟨rfl, hfin⟩

end Go.Proofs.YbulkbmaiDoor
