/- slices.Clone and slices.Equal at []int32, '(*adaptive).begin': their contracts. -/
import Derived.Test.YbulkbmawProg
import Derived.WalkKit
import Derived.WalkSmall
import Derived.WalkSpells
import Derived.Deep.QuietTactic
import Derived.BigQuiet
namespace Go.Proofs.Ybulkbmaw
open Go.RowKit
set_option linter.unusedVariables false
set_option linter.unusedSimpArgs false

theorem inf21 : (Yba.prog.info? 21).map (fun i => (i.zero, i.size, i.bytes)) = some (some (.int .i32 0), 1, 4) := by kernel_rfl

/-- What the walks are told of a slice of int32: nil has neither length nor capacity; where it has an element its cells lie below block B and hold the numbers z. -/
def Row32 (w : World) (B : Nat) (ao : Option Addr) (n c : Nat) (z : List Int) : Prop :=
  (ao = none → n = 0 ∧ c = 0) ∧ z.length = n ∧ (0 < n → ∃ b off, ao = some ⟨b, off, none⟩ ∧ b < B ∧ ∀ j, j < n → w.cell? ⟨b, off + j, none⟩ = some (.int .i32 (z.getD j 0)))

theorem Row32.later {w w' : World} {B B' n c : Nat} {ao : Option Addr} {z : List Int} (h : Row32 w B ao n c z) (hb : ∀ b off, b < B → w'.cell? ⟨b, off, none⟩ = w.cell? ⟨b, off, none⟩) (hB : B ≤ B') : Row32 w' B' ao n c z := by
  obtain ⟨h1, h2, h3⟩ := h
  refine ⟨h1, h2, fun hp => ?_⟩
  obtain ⟨b, off, e, hbB, hc⟩ := h3 hp
  exact ⟨b, off, e, by omega, fun j hj => (hb _ _ hbB).trans (hc j hj)⟩

theorem nil34 (w : World) (n c : Nat) : (binOp .eql 34 (.slice none n c) (.slice none 0 0)).run Yba.prog w = .ok (.bool true) w := Lib.run_eql_slice_nil w 34 21 none n c 0 0 Yba.underlying34
theorem some34 (w : World) (a : Addr) (n c : Nat) : (binOp .eql 34 (.slice (some a) n c) (.slice none 0 0)).run Yba.prog w = .ok (.bool false) w := Lib.run_eql_slice_nil w 34 21 (some a) n c 0 0 Yba.underlying34

theorem clone_nil (w : World) : Calls Yba.prog 9 #[.slice none 0 0] w fun e w' => e = .returned (.slice none 0 0) ∧ w = w' := by
  have hq := fun w => nil34 w 0 0
  go_enter Yba.func9, Yba.ntmps9
  go_wp2
  go_ret
  exact ⟨rfl, rfl⟩

set_option maxHeartbeats 1000000 in
theorem clone_some (ad : Addr) (n c : Nat) (z : List Int) (w : World) (hn : n ≤ 100000) (s : Row32 w w.heap.size (some ad) n c z) :
    Calls Yba.prog 9 #[.slice (some ad) n c] w fun e w' => ∃ g cap, e = .returned (.slice (some ⟨g, 0, none⟩) n cap) ∧ w'.ownsRow w.heap.size 21 1 (.slice (some ⟨g, 0, none⟩) n cap) n (z.map (Value.int .i32)) ∧ Below w.heap.size w w' := by
  obtain ⟨i0, hi0, hz0, hz1, hz2⟩ := info_parts inf21
  have hq := fun w => some34 w ad n c
  have he : (w.alloc (.cells #[] 21)).ownsRow w.heap.size 21 1 (.slice (some ⟨w.heap.size, 0, none⟩) 0 0) 0 [] := World.ownsRow_lit w #[] 0 (Nat.le_refl _) (Nat.zero_le _) rfl
  go_enter Yba.func9, Yba.ntmps9
  go_wp2_with (at_builtin; refine wpList_append_own _ rfl _ _ 34 rfl w.heap.size 21 i0 (.int .i32 0) 1 4 Yba.underlying34 hi0 hz0 hz1 hz2 rfl (by decide) _ 0 [] rfl he ad n c (z.map (Value.int .i32)) rfl (by rw [List.length_map, s.2.1]; omega) ?hc (ints_oneCell _ _) (by unfold maxLen; omega) (by omega) (by simp) ?_)
  case hc =>
    intro j u hu
    have hj : j < z.length := by
      have := (List.getElem?_eq_some_iff.1 hu).1
      simpa using this
    obtain ⟨b, off, e, hbB, hc⟩ := s.2.2 (by have := s.2.1; omega)
    obtain rfl := Option.some.inj e
    rw [Addr.add_lit, World.cell?_alloc_past _ _ _ hbB, hc j (by have := s.2.1; omega)]
    simp [hj] at hu
    simp [List.getD, hj, hu]
  intro v' w1 hown hgr hnil
  obtain ⟨g, cap, rfl⟩ : ∃ g cap, v' = .slice (some ⟨g, 0, none⟩) n cap := by
    rcases hown.2 with ⟨h, _⟩ | ⟨g, cap, cur, h, _⟩
    · exact absurd h hnil
    · exact ⟨g, cap, h⟩
  have hb : Below w.heap.size w w1 := ((Below.refl _ _).alloc (Nat.le_refl _) _).grown hgr (by simp) (by intro q hq; simp [Value.ownBlock] at hq; omega)
  clear hgr hnil
  go_wp2
  go_ret
  exact ⟨g, cap, rfl, hown, hb⟩

set_option maxHeartbeats 1000000 in
theorem equal_any (ao bo : Option Addr) (n c d B : Nat) (z : List Int) (w : World) (hn : n ≤ 100000) (s : Row32 w B ao n c z) (t : Row32 w B bo n d z) :
    Calls Yba.prog 11 #[.slice ao n c, .slice bo n d] w fun e w' => e = .returned (.bool true) ∧ ∃ nq, w' = w.drewN nq := by
  go_enter Yba.func11, Yba.ntmps11
  go_wp2
  go_loopw [13] (fun i wr => ∃ k : Nat, k ≤ n ∧ i = .int .i64 k ∧ ∃ nq, wr = w.drewN nq) (fun i _ => n - (intOf i).toNat)
  case atStart => exact ⟨0, Nat.zero_le _, rfl, 0, rfl⟩
  case round =>
    obtain ⟨k, hk, rfl, nq, rfl⟩ := hrel
    by_cases hlt : k < n
    · obtain ⟨b, off, rfl, _, hc⟩ := s.2.2 (by omega)
      obtain ⟨b2, off2, rfl, _, hc2⟩ := t.2.2 (by omega)
      have h1 := hc k hlt
      have h2 := hc2 k hlt
      generalize z.getD k 0 = x at h1 h2
      have hk1 : (k : Int) < (n : Int) := by omega
      clear hc hc2 s t
      go_wp2
      go_quiet (fail)
      go_wp2
      go_roundw
      case rel => exact ⟨k + 1, by omega, by go_num, _, rfl⟩
      case measure => simp [intOf]; omega
    · go_wp2
      go_ret
      exact ⟨rfl, _, rfl⟩

/-! ### '(*adaptive).begin' -/
/-- The block of an 'adaptive': thirteen cells. -/
def Ad (w : World) (A : Nat) (c0 c1 c2 c3 v c5 c6 c7 c8 c9 c10 c11 c12 : Value) : Prop :=
  w.heap[A]? = some (.cells #[c0, c1, c2, c3, v, c5, c6, c7, c8, c9, c10, c11, c12] 63 (0, 0))

/-- Only the two blocks have been written. -/
structure Only (w w' : World) (A : Nat) (R : Option Nat) : Prop where
  os : w'.os = w.os
  tape : w'.tape = w.tape
  output : w'.output = w.output
  size : w'.heap.size = w.heap.size
  block : ∀ b, b ≠ A → R ≠ some b → w'.heap[b]? = w.heap[b]?

theorem Only.refl (w : World) (A : Nat) (R : Option Nat) : Only w w A R := ⟨rfl, rfl, rfl, rfl, fun _ _ _ => rfl⟩
theorem Only.setA {w w' : World} {A : Nat} {R : Option Nat} (h : Only w w' A R) (j : Nat) (u : Value) : Only w (w'.setCell ⟨A, j, none⟩ u) A R :=
  ⟨h.os, h.tape, h.output, by rw [World.size_setCell]; exact h.size, fun b hb hR => (heap_setCell_other w' _ b u hb).trans (h.block b hb hR)⟩
theorem Only.setR {w w' : World} {A r : Nat} (h : Only w w' A (some r)) (j : Nat) (u : Value) : Only w (w'.setCell ⟨r, j, none⟩ u) A (some r) :=
  ⟨h.os, h.tape, h.output, by rw [World.size_setCell]; exact h.size, fun b hb hR => (heap_setCell_other w' _ b u (fun e => hR (by rw [e]))).trans (h.block b hb hR)⟩
theorem Only.below {w w' : World} {A B : Nat} {R : Option Nat} (h : Only w w' A R) (hA : B ≤ A) (hR : ∀ r, R = some r → B ≤ r) : Below B w w' :=
  ⟨h.os, h.tape, h.output, by rw [h.size]; exact Nat.le_refl _, fun b hb => h.block b (by omega) (fun e => by have := hR b e; omega)⟩

set_option maxRecDepth 100000 in
set_option maxHeartbeats 1000000 in
theorem begin_any (A n cap base : Nat) (ao : Option Addr) (c0 c1 c2 c3 c5 c6 c7 c8 c9 c10 c11 c12 : Value) (xs : List Value) (w : World) (hn : n ≤ 100000) (hA : Ad w A c0 c1 c2 c3 (.slice ao n cap) c5 c6 c7 c8 c9 c10 c11 c12)
    (hown : w.ownsRow base 59 7 (.slice ao n cap) n xs) (hAR : (Value.slice ao n cap).ownBlock ≠ some A) :
    Calls Yba.prog 10 #[.pointer (some ⟨A, 0, none⟩)] w fun e w' => e = .returned (.tuple #[]) ∧ ∃ xs', w'.ownsRow base 59 7 (.slice ao n cap) n xs' ∧
      Ad w' A c0 c1 c2 c3 (.slice ao n cap) c5 (.int .i64 1) (.int .i64 0) c8 (.bool false) c10 c11 c12 ∧ (∀ q, q % 7 ≠ 6 → xs'[q]? = xs[q]?) ∧ (∀ j, j < n → xs'[j * 7 + 6]? = some (.int .u8 0)) ∧ Only w w' A (Value.slice ao n cap).ownBlock := by
  have h4 : w.cell? ⟨A, 4, none⟩ = some (.slice ao n cap) := cell_of_row w A 4 _ 63 (0, 0) hA
  go_enter Yba.func10, Yba.ntmps10
  go_wp2
  go_loopw [8] (fun i wr => ∃ k : Nat, k ≤ n ∧ i = .int .i64 k ∧ ∃ xs', wr.ownsRow base 59 7 (.slice ao n cap) n xs' ∧ Ad wr A c0 c1 c2 c3 (.slice ao n cap) c5 c6 c7 c8 c9 c10 c11 c12 ∧ (∀ q, q % 7 ≠ 6 → xs'[q]? = xs[q]?) ∧ (∀ j, j < k → xs'[j * 7 + 6]? = some (.int .u8 0)) ∧ Only w wr A (Value.slice ao n cap).ownBlock) (fun i _ => n - (intOf i).toNat)
  case atStart => exact ⟨0, Nat.zero_le _, rfl, xs, hown, hA, fun _ _ => rfl, fun j hj => absurd hj (by omega), Only.refl _ _ _⟩
  case round =>
    obtain ⟨k, hk, rfl, ys, ho, hAd, hq, hz, hon⟩ := hrel
    have k4 : wr.cell? ⟨A, 4, none⟩ = some (.slice ao n cap) := cell_of_row wr A 4 _ 63 (0, 0) hAd
    have HQ : Hid ((∀ q, q % 7 ≠ 6 → ys[q]? = xs[q]?) ∧ ∀ j, j < k → ys[j * 7 + 6]? = some (.int .u8 0)) := ⟨hq, hz⟩
    clear hq hz hown hA h4
    by_cases hlt : k < n
    · obtain ⟨g, hg⟩ : ∃ g, ao = some ⟨g, 0, none⟩ := by
        rcases ho.2 with ⟨_, h0⟩ | ⟨g, cap', cur, h, _⟩
        · omega
        · simp only [Value.slice.injEq] at h
          exact ⟨g, h.1⟩
      subst hg
      have hgA : g ≠ A := by simpa [Value.ownBlock] using hAR
      have hl := ho.1
      have e6 : wr.cell? ⟨g, k * 7 + 6, none⟩ = some (ys.getD (k * 7 + 6) (.int .u8 0)) := by
        rw [ho.cellAt (k * 7 + 6) (by omega)]
        simp [List.getD, show k * 7 + 6 < ys.length by omega]
      have f6 := ho.frozenAt (k * 7 + 6)
      generalize ys.getD (k * 7 + 6) (.int .u8 0) = u at e6
      go_wp2
      go_roundw
      case rel =>
        obtain ⟨o1, _⟩ := ho.stored (k * 7 + 6) (.int .u8 0)
        refine ⟨k + 1, by omega, by go_num, _, o1, (heap_setCell_other wr _ A _ (Ne.symm hgA)).trans hAd, fun q hq' => ?_, fun j hj => ?_, hon.setR _ _⟩
        · rw [List.getElem?_set_ne (by omega)]
          exact HQ.out.1 q hq'
        · by_cases e : j = k
          · subst e
            rw [List.getElem?_set_self (by omega)]
          · rw [List.getElem?_set_ne (by omega)]
            exact HQ.out.2 j (by omega)
      case measure => simp [intOf]; omega
    · have hkn : k = n := by omega
      subst hkn
      have k6 : wr.cell? ⟨A, 6, none⟩ = some c6 := cell_of_row wr A 6 _ 63 (0, 0) hAd
      have k7 : wr.cell? ⟨A, 7, none⟩ = some c7 := cell_of_row wr A 7 _ 63 (0, 0) hAd
      have k9 : wr.cell? ⟨A, 9, none⟩ = some c9 := cell_of_row wr A 9 _ 63 (0, 0) hAd
      have f6 : wr.frozen? ⟨A, 6, none⟩ = false := frozen_of_row wr A 6 _ 63 hAd
      have f7 : wr.frozen? ⟨A, 7, none⟩ = false := frozen_of_row wr A 7 _ 63 hAd
      have f9 : wr.frozen? ⟨A, 9, none⟩ = false := frozen_of_row wr A 9 _ 63 hAd
      go_wp2
      go_end0
      have m1 := heap_setCell_same wr A 6 _ 63 (.int .i64 1) hAd
      have m2 := heap_setCell_same _ A 7 _ 63 (.int .i64 0) m1
      have m3 := heap_setCell_same _ A 9 _ 63 (.bool false) m2
      have o1 := ownsRow_setCell_other ho (a := ⟨A, 6, none⟩) hAR (.int .i64 1)
      have o2 := ownsRow_setCell_other o1 (a := ⟨A, 7, none⟩) hAR (.int .i64 0)
      have o3 := ownsRow_setCell_other o2 (a := ⟨A, 9, none⟩) hAR (.bool false)
      exact ⟨rfl, ys, o3, m3, HQ.out.1, HQ.out.2, ((hon.setA 6 _).setA 7 _).setA 9 _⟩
end Go.Proofs.Ybulkbmaw
