/- The law 'LawS3141BModel': the walk, the row, the tied card. -/
import Derived.Test.YbulkbmaiDoorRows
import Derived.Test.YbulkbmaiDoorTie
import Derived.Test.YbulkbmaiDoorCards
import Derived.Test.YbulkbmaiDoorLaid
import Derived.Test.YbulkbmaiDoorModel
import Derived.Laws.AppendOwnNone
import Derived.WalkKit
import Derived.ProofKit
import Derived.OpenShut
import Derived.ShutString
import Derived.ChangeOld
import Derived.Below
import Derived.SevenTiedAt
namespace Go.Proofs.YbulkbmaiDoor.lawS3141BModel
open Go.ChangeShapes Go.WideShapes Go.ChangeAt Go.RowKit
set_option linter.unusedVariables false

/-- What both readers answer at offset i of the text z. -/
def unitV (z : List Int) (i : Nat) : Int :=
  if z.length < i + 6 then -1 else if z.getD i 0 = 92 ∧ z.getD (i + 1) 0 = 117 then hexI (hexV 0 (((z.drop (i + 2)).take 4).map Int.toNat)) else -1
theorem unitV_short {z : List Int} {i : Nat} (h : z.length < i + 6) : unitV z i = -1 := by unfold unitV; rw [if_pos h]
theorem unitV_no {z : List Int} {i : Nat} (h : ¬ (z.getD i 0 = 92 ∧ z.getD (i + 1) 0 = 117)) : unitV z i = -1 := by unfold unitV; rw [if_neg h]; split <;> rfl
theorem unitV_hex {z : List Int} {i : Nat} (h0 : ¬ z.length < i + 6) (h : z.getD i 0 = 92 ∧ z.getD (i + 1) 0 = 117) : unitV z i = hexI (hexV 0 (((z.drop (i + 2)).take 4).map Int.toNat)) := by unfold unitV; rw [if_neg h0, if_pos h]

theorem part_getD (z : List Int) (k j : Nat) (hj : j < 4) : ((z.drop k).take 4).getD j 0 = z.getD (k + j) 0 := by
  simp [List.getD, hj]
theorem part_nat (z : List Int) (k j : Nat) (hj : j < 4) : (((z.drop k).take 4).map Int.toNat).getD j 0 = (z.getD (k + j) 0).toNat := by
  have : (((z.drop k).take 4).map Int.toNat).getD j 0 = (((z.drop k).take 4).getD j 0).toNat := by
    simp only [List.getD, List.getElem?_map]
    cases ((z.drop k).take 4)[j]? <;> rfl
  rw [this, part_getD z k j hj]
theorem getD_byte {z : List Int} (hz : ∀ x ∈ z, 0 ≤ x ∧ x ≤ 255) (j : Nat) : 0 ≤ z.getD j 0 ∧ z.getD j 0 ≤ 255 := by
  by_cases hj : j < z.length
  · have := hz z[j] (List.getElem_mem hj)
    simpa [List.getD, hj] using this
  · simp [List.getD, List.getElem?_eq_none (show z.length ≤ j by omega)]

theorem unit_any (b B n cap i : Nat) (ao : Option Addr) (z : List Int) (ev : Value) (w : World) (hn : n ≤ 4096) (hi : i ≤ 5000) (hnc : n ≤ cap) (s : Src w B ao n cap z) (hz : ∀ x ∈ z, 0 ≤ x ∧ x ≤ 255)
    (h0 : w.cell? ⟨b, 0, none⟩ = some (.slice ao n cap)) (hc : w.cell? ⟨0, 0, none⟩ = some ev) (hev : ev = .nilIface ∨ ∃ te pe, ev = .iface te pe) :
    Calls Ybad.prog 5 #[.pointer (some ⟨b, 0, none⟩), .int .i64 (i : Int)] w fun e w' => e = .returned (.int .i32 (unitV z i)) ∧ Below w.heap.size w w' := by
  obtain ⟨_, hl, hp⟩ := s
  by_cases hs : n < i + 6
  · rw [unitV_short (by omega)]
    exact (unit_short b n cap i ao w (by omega) (by omega) hs h0).mono fun e w' ⟨he, hw⟩ => ⟨he, by rw [← hw]; exact Below.refl _ _⟩
  · obtain ⟨d, o, rfl, _, hcell⟩ := hp (by omega)
    by_cases hh : z.getD i 0 = 92 ∧ z.getD (i + 1) 0 = 117
    · rw [unitV_hex (by omega) hh]
      refine unit_hex b d o n cap i ((z.drop (i + 2)).take 4) ev w (by omega) hnc (by omega) h0 (by rw [hcell i (by omega), hh.1]) (by rw [hcell (i + 1) (by omega), hh.2]) (by rw [List.length_take, List.length_drop]; omega) (fun x hx => hz x (List.mem_of_mem_drop (List.mem_of_mem_take hx))) ?_ hc hev
      intro j hj
      rw [part_getD z _ j hj, Nat.add_assoc, hcell _ (by omega)]
    · rw [unitV_no hh]
      exact (unit_no b d o n cap i _ _ w (by omega) (by omega) h0 (hcell i (by omega)) (hcell (i + 1) (by omega)) hh).mono fun e w' ⟨he, hw⟩ => ⟨he, by rw [← hw]; exact Below.refl _ _⟩

theorem model_any (B n cap i : Nat) (ao : Option Addr) (z : List Int) (w : World) (hn : n ≤ 4096) (hi : i ≤ 5000) (s : Src w B ao n cap z) (hz : ∀ x ∈ z, 0 ≤ x ∧ x ≤ 255) :
    Calls Ybad.prog 6 #[.slice ao n cap, .int .i64 (i : Int)] w fun e w' => e = .returned (.int .i32 (unitV z i)) ∧ w = w' := by
  obtain ⟨_, hl, hp⟩ := s
  by_cases hs : n < i + 6
  · rw [unitV_short (by omega)]
    exact model_short ao n cap i w (by omega) (by omega) hs
  · obtain ⟨d, o, rfl, _, hcell⟩ := hp (by omega)
    by_cases hh : z.getD i 0 = 92 ∧ z.getD (i + 1) 0 = 117
    · rw [unitV_hex (by omega) hh]
      refine model_hex d o n cap i (((z.drop (i + 2)).take 4).map Int.toNat) w (by omega) (by omega) (by rw [hcell i (by omega), hh.1]) (by rw [hcell (i + 1) (by omega), hh.2]) (by rw [List.length_map, List.length_take, List.length_drop]; omega) ?_ ?_
      · intro j
        by_cases hj : j < 4
        · rw [part_nat z _ j hj]
          have := getD_byte hz (i + 2 + j)
          omega
        · rw [List.getD, List.getElem?_eq_none (by rw [List.length_map, List.length_take]; omega)]
          decide
      · intro j hj
        have := getD_byte hz (i + 2 + j)
        rw [part_nat z _ j hj, hcell _ (by omega), ← Nat.add_assoc, Int.toNat_of_nonneg this.1]
    · rw [unitV_no hh]
      exact model_no d o n cap i _ _ w (by omega) (by omega) (hcell i (by omega)) (hcell (i + 1) (by omega)) hh

/-- A row of bytes that the call owns, as the walks want it. -/
theorem own_src {w : World} {base n : Nat} {v : Value} {z : List Int} (hl : z.length = n) (h : w.ownsRow base 5 1 v n (z.map (Value.int .u8))) :
    ∃ ao cap, v = .slice ao n cap ∧ n ≤ cap ∧ Src w w.heap.size ao n cap z := by
  rcases h.2 with ⟨rfl, rfl⟩ | ⟨g, cap, cur, rfl, hb, hg, hnc, _⟩
  · exact ⟨none, 0, rfl, Nat.le_refl _, fun _ => ⟨rfl, rfl⟩, hl, fun h => absurd h (by omega)⟩
  · refine ⟨_, cap, rfl, hnc, fun h => (by cases h), hl, fun hp => ⟨g, 0, rfl, (h.lt g rfl).2, fun j hj => ?_⟩⟩
    rw [Nat.zero_add]
    exact row_cell h j _ (by simp [List.getD, show j < z.length by omega])

theorem src_later {w w' : World} {B B' n c : Nat} {ao : Option Addr} {z : List Int} (h : Src w B ao n c z) (hb : ∀ b off, b < B → w'.cell? ⟨b, off, none⟩ = w.cell? ⟨b, off, none⟩) (hB : B ≤ B') : Src w' B' ao n c z := by
  obtain ⟨h1, h2, h3⟩ := h
  refine ⟨h1, h2, fun hp => ?_⟩
  obtain ⟨b, off, e, hbB, hc⟩ := h3 hp
  exact ⟨b, off, e, by omega, fun j hj => (hb _ _ hbB).trans (hc j hj)⟩
theorem src_bytes {w : World} {B n c : Nat} {ao : Option Addr} {z : List Int} (h : Src w B ao n c z) : Lib.BytesIn w ao n z := by
  intro hn
  obtain ⟨b, off, e, _, hc⟩ := h.2.2 hn
  exact ⟨b, off, e, hc⟩

/-! ### The walk -/
theorem walk_long (ao : Option Addr) (n c : Nat) (at_ : Int) (w : World) (hm : n ≤ maxLen) (h : 4096 < n) :
    Calls Ybad.prog 3 #[.slice ao n c, .int .u16 at_] w fun e w' => e = .returned (.bool true) ∧ Below w.heap.size w w' := by
  unfold maxLen at hm
  have h' : (4096 : Int) < (n : Int) := by omega
  go_enter Ybad.func3, Ybad.ntmps3
  go_wp2
  go_ret
  exact ⟨rfl, Below.refl _ _⟩

set_option maxHeartbeats 1000000 in
theorem walk_short (ao : Option Addr) (n c : Nat) (z : List Int) (o : Nat) (ev : Value) (w : World) (hn : n ≤ 4096) (ho : o ≤ 65535) (s : Src w w.heap.size ao n c z) (hz : ∀ x ∈ z, 0 ≤ x ∧ x ≤ 255)
    (hc : w.cell? ⟨0, 0, none⟩ = some ev) (hev : ev = .nilIface ∨ ∃ te pe, ev = .iface te pe) :
    Calls Ybad.prog 3 #[.slice ao n c, .int .u16 (o : Int)] w fun e w' => e = .returned (.bool true) ∧ Below w.heap.size w w' := by
  have hl : ¬ (4096 : Int) < (n : Int) := by omega
  obtain ⟨i, ei, hi⟩ : ∃ i : Nat, (o : Int) % ((n : Int) + 8) = (i : Int) ∧ i ≤ n + 7 := ⟨o % (n + 8), by rw [Int.natCast_emod]; rfl, by have := Nat.mod_lt o (show 0 < n + 8 by omega); omega⟩
  obtain ⟨i0, hi0, hz0, hz1, hz2⟩ := info_parts info5
  have h00 : 0 < w.heap.size := World.block_lt_of_cell? _ _ hc
  have HZ : Hid (∀ x ∈ z, 0 ≤ x ∧ x ≤ 255) := hz
  clear hz
  cases ao with
  | none =>
    obtain ⟨rfl, rfl⟩ := s.1 rfl
    have ei' : (o : Int) % 8 = (i : Int) := by simpa using ei
    clear ei
    go_enter Ybad.func3, Ybad.ntmps3
    go_wp2_with (at_builtin; refine wpList_append_own_none rfl _ _ 22 rfl w.heap.size 5 i0 1 Ybad.underlying22 hi0 _ 0 [] rfl (World.ownsRow_nil _ _ _ _) rfl ?_)
    have hcw : w.cell? ⟨0, 0, none⟩ = some ev := hc
    have hlt1 : ∀ (o : Obj) b off, b < w.heap.size → (w.alloc o).cell? ⟨b, off, none⟩ = w.cell? ⟨b, off, none⟩ := fun o b off h => World.cell?_alloc_lt _ _ _ h
    have h0W : 0 < w.heap.size := World.block_lt_of_cell? _ _ hcw
    refine (unit_any w.heap.size w.heap.size 0 0 i none z ev _ (by omega) (by omega) (Nat.le_refl _) (src_later s (hlt1 _) (Nat.le_refl _)) HZ.out (by simp) ((hlt1 _ 0 0 h0W).trans hcw) hev).mono ?_
    rintro e w2 ⟨rfl, hb2⟩
    have k0 : w2.cell? ⟨w.heap.size, 0, none⟩ = some (.slice none 0 0) := by
      rw [hb2.cell (p := ⟨w.heap.size, 0, none⟩) (by simp)]
      simp
    have k1 : w2.cell? ⟨w.heap.size, 1, none⟩ = some (.int .i64 7) := by
      rw [hb2.cell (p := ⟨w.heap.size, 1, none⟩) (by simp)]
      simp
    have hold : ∀ b off, b < w.heap.size → w2.cell? ⟨b, off, none⟩ = w.cell? ⟨b, off, none⟩ := fun b off h => (hb2.cell (p := ⟨b, off, none⟩) (by simp; omega)).trans (hlt1 _ b off h)
    have sd2 := src_later s hold (Nat.le_refl _)
    have sa2 := src_later s hold (Nat.le_refl _)
    have hfin : Below w.heap.size w w2 := ((Below.refl w.heap.size w).alloc (Below.refl w.heap.size w).size _).trans (hb2.mono (by simp))
    clear hb2 hold hlt1
    obtain ⟨r, hr⟩ : ∃ r, r = unitV z i := ⟨_, rfl⟩
    have hM := model_any w.heap.size 0 0 i none z w2 (by omega) (by omega) sa2 HZ.out
    have hE := Ybad.bytes_Equal_all none none 0 0 0 0 z z w2 s.2.1 s.2.1 (src_bytes sd2) (src_bytes sa2)
    have eb : (Lib.bytesOf z == Lib.bytesOf z) = true := by simp
    rw [eb] at hE
    rw [← hr] at hM ⊢
    clear hr sd2 sa2 eb
    go_wp2_with (first | (go_at_call 6; refine hM.mono ?_; rintro e w3 ⟨rfl, rfl⟩) | (go_at_call 7; refine hE.mono ?_; rintro e w3 ⟨rfl, rfl⟩))
    go_ret
    exact ⟨rfl, hfin⟩
  | some ad =>
    go_enter Ybad.func3, Ybad.ntmps3
    go_wp2_with (at_builtin; refine wpList_append_own _ rfl _ _ 22 rfl w.heap.size 5 i0 (.int .u8 0) 1 1 Ybad.underlying22 hi0 hz0 hz1 hz2 rfl (by decide) _ 0 [] rfl (World.ownsRow_nil _ _ _ _) ad n c (z.map (Value.int .u8)) rfl (by rw [List.length_map, s.2.1]; omega) (s.cells (fun _ _ _ => rfl) ad rfl) (ints_oneCell _ _) (by unfold maxLen; omega) (by omega) (Nat.le_refl _) ?_; intro v' w1 hown hgr hnil; rw [Nat.zero_add, List.nil_append] at hown; obtain ⟨ao', cap', rfl, hnc, sd⟩ := own_src s.2.1 hown; clear hown hnil)
    have Bel : Below w.heap.size w w1 := (Below.refl _ _).grown hgr (Nat.le_refl _) (by intro q hq; cases hq)
    have sa := src_later s (fun b off h => Bel.cell (p := ⟨b, off, none⟩) h) Bel.size
    have hcw : w1.cell? ⟨0, 0, none⟩ = some ev := ((Bel.cell (p := ⟨0, 0, none⟩) h00).trans hc)
    have hlt1 : ∀ (o : Obj) b off, b < w1.heap.size → (w1.alloc o).cell? ⟨b, off, none⟩ = w1.cell? ⟨b, off, none⟩ := fun o b off h => World.cell?_alloc_lt _ _ _ h
    have h0W : 0 < w1.heap.size := World.block_lt_of_cell? _ _ hcw
    refine (unit_any w1.heap.size w1.heap.size n cap' i ao' z ev _ (by omega) (by omega) hnc (src_later sd (hlt1 _) (Nat.le_refl _)) HZ.out (by simp) ((hlt1 _ 0 0 h0W).trans hcw) hev).mono ?_
    rintro e w2 ⟨rfl, hb2⟩
    have k0 : w2.cell? ⟨w1.heap.size, 0, none⟩ = some (.slice ao' n cap') := by
      rw [hb2.cell (p := ⟨w1.heap.size, 0, none⟩) (by simp)]
      simp
    have k1 : w2.cell? ⟨w1.heap.size, 1, none⟩ = some (.int .i64 7) := by
      rw [hb2.cell (p := ⟨w1.heap.size, 1, none⟩) (by simp)]
      simp
    have hold : ∀ b off, b < w1.heap.size → w2.cell? ⟨b, off, none⟩ = w1.cell? ⟨b, off, none⟩ := fun b off h => (hb2.cell (p := ⟨b, off, none⟩) (by simp; omega)).trans (hlt1 _ b off h)
    have sd2 := src_later sd hold (Nat.le_refl _)
    have sa2 := src_later sa hold (Nat.le_refl _)
    have hfin : Below w.heap.size w w2 := (Bel.alloc Bel.size _).trans (hb2.mono (by have := Bel.size; simp; omega))
    clear hb2 hold hlt1
    obtain ⟨r, hr⟩ : ∃ r, r = unitV z i := ⟨_, rfl⟩
    have hM := model_any w1.heap.size n c i (some ad) z w2 (by omega) (by omega) sa2 HZ.out
    have hE := Ybad.bytes_Equal_all ao' (some ad) n cap' n c z z w2 s.2.1 s.2.1 (src_bytes sd2) (src_bytes sa2)
    have eb : (Lib.bytesOf z == Lib.bytesOf z) = true := by simp
    rw [eb] at hE
    rw [← hr] at hM ⊢
    clear hr sd2 sa2 eb
    go_wp2_with (first | (go_at_call 6; refine hM.mono ?_; rintro e w3 ⟨rfl, rfl⟩) | (go_at_call 7; refine hE.mono ?_; rintro e w3 ⟨rfl, rfl⟩))
    go_ret
    exact ⟨rfl, hfin⟩

/-! ### The row -/
theorem open_bytes {H : Type} {enc : TypeId × Value → H} {W : World} {a : Option Addr} {len cap : Nat} {d : DataW H} {p : List MemPlace} (h : DataW.Trod enc Ybad.prog W 0 (fun _ => true) true 22 (.slice a len cap) d p) :
    ∃ z, Src W W.heap.size a len cap z ∧ len ≤ maxLen ∧ ∀ x ∈ z, 0 ≤ x ∧ x ≤ 255 := by
  obtain ⟨fuel, hf⟩ := h
  rcases open_ints Ybad.underlying22 Ybad.underlying5 (by kernel_rfl) hf with ⟨hcs, _⟩ | ⟨x, l, c, zs, hcs, _, hl, hm, hz, _, hcell, hwz⟩
  · simp [Value.cells] at hcs
    obtain ⟨rfl, rfl, rfl⟩ := hcs
    exact ⟨[], ⟨fun _ => ⟨rfl, rfl⟩, rfl, fun h => absurd h (by omega)⟩, Nat.zero_le _, by simp⟩
  · simp [Value.cells] at hcs
    obtain ⟨rfl, rfl, rfl⟩ := hcs
    have hz' : zs.length = cap := by simpa using hz
    refine ⟨zs.take len, ⟨fun h => (by cases h), by rw [List.length_take]; omega, fun hp => ?_⟩, by omega, fun x hx => bounds_u8 (hwz x (List.mem_of_mem_take hx))⟩
    obtain ⟨b, off, rfl, hc⟩ := ints_at hcell (by omega)
    refine ⟨b, off, rfl, by simpa using World.block_lt_of_cell? _ _ (hc 0 (by omega)), fun j hj => ?_⟩
    rw [hc j (by omega)]
    simp [List.getD, hj]

set_option maxRecDepth 100000 in
theorem lifted (os : Os) (started : os.Started) (H : Type) (enc : TypeId × Value → H) :
    ReturnsInHanded {} Ybad.checked os 3 .any (fun w args => (Rows.lawS3141BModelSpec.pre enc Ybad.prog Ybad.f3 Rows.lawS3141BModelRow.domain false w args ∧ laidMetH Ybad.prog Rows.lawS3141BModelRow.laid w) ∧ sizedMet enc Ybad.prog Ybad.f3 (OpenSpec.ofChange Rows.lawS3141BModelSpec) false w args)
      (Rows.lawS3141BModelSpec.post enc Ybad.prog Ybad.f3 false true false false) := by
  refine returnsInHanded_of_change_and (C := Ybad.checked) (X := fun w _ => laidMetH Ybad.prog Rows.lawS3141BModelRow.laid w) (fun _ _ _ hh h => h.of_heap hh) own started (by kernel_rfl) Ybad.func3
    (ChangeSpec.witness_shaped (enc := enc) (C := Ybad.checked) (os := os) (X := fun w _ => laidMetH Ybad.prog Rows.lawS3141BModelRow.laid w) false (World.doorLaid Ybad.prog 62 os) #[.slice none 0 0, .int .u16 0] 8 rfl (World.shaped_of_RefB (by kernel_rfl) (by kernel_rfl)) (by kernel_rfl) (by kernel_rfl) (by kernel_rfl) (door_met os _)) ?_
  intro W base args ds gs before hval0 hW _ _ hL _
  have hval : ∀ (j : Nat) t v, Ybad.f3.params[j]? = some t → args[j]? = some v → Value.okWide Ybad.prog W .any base t v := hval0
  have hW' := hW
  obtain ⟨p, q, hA0, hV, rfl, hfz, hnd⟩ := hW
  have hA : DataW.TrodAll enc Ybad.prog W 0 (fun _ => true) true Ybad.f3.params.toList args.toList ds p := hA0
  rw [Ybad.params3] at hA hval
  obtain ⟨v0, vs0, d0, ds0, p0, q0, hargs, rfl, rfl, h0, r0⟩ := trodAll_cons hA
  obtain ⟨v1, vs1, d1, ds1, p1, q1, rfl, rfl, rfl, h1, r1⟩ := trodAll_cons r0
  obtain ⟨rfl, rfl, rfl⟩ := trodAll_nil r1
  obtain rfl : args = #[v0, v1] := by cases args; simp_all
  obtain ⟨rfl, rfl⟩ := trodVars_none hV
  obtain ⟨a0, len0, cap0, rfl⟩ := okWide_slice Ybad.underlying22 (hval 0 22 v0 rfl rfl)
  have k0 := h0
  have lt0 : ∀ x ∈ p0, x.block < W.heap.size := by obtain ⟨m, hm⟩ := k0; exact DataW.trod_lt m _ _ _ hm
  obtain ⟨z0, s0, m0, bz⟩ := open_bytes h0
  obtain ⟨x1, rfl, rfl, rfl, w1⟩ := open_int Ybad.underlying23 (hval 1 23 v1 rfl rfl) h1
  obtain ⟨ev, hc, hev⟩ := err_cell hL
  have fin : Calls Ybad.prog 3 #[.slice a0 len0 cap0, .int .u16 x1] W fun e w' => e = .returned (.bool true) ∧ Below W.heap.size W w' := by
    obtain ⟨b1, b2⟩ := bounds_u16 w1
    by_cases hl : 4096 < len0
    · exact walk_long a0 len0 cap0 x1 W m0 hl
    · obtain ⟨v, rfl⟩ : ∃ v : Nat, x1 = (v : Int) := ⟨x1.toNat, by omega⟩
      exact walk_short a0 len0 cap0 z0 v ev W (by omega) (by omega) s0 bz hc hev
  clear hA0 hval0
  refine fin.mono fun e W' ⟨he, bel⟩ => ?_
  subst he
  exact ⟨_, rfl, _, _, _, [], _, [], hW', trodAll_mk1 (shut_bool Ybad.underlying4 _), (trodAll_cons_mk (Below.trod laidOut (by kernel_rfl) (of_decide_eq_true (by kernel_rfl)) k0 bel lt0) (trodAll_cons_mk (shut_int Ybad.underlying23 w1) trodAll_mk0)), rfl, bel.frame _, fun h => by cases h⟩

theorem row_holds : Rows.LawS3141BModelSaid :=
  OpenClaim.holds_of_wide 3 Ybad.f3 rfl rfl rfl rfl rfl rfl rfl ⟨rfl, rfl, rfl, rfl, rfl⟩ rfl rfl rfl rfl rfl (by kernel_rfl) Ybad.func3 (by kernel_rfl)
    (of_decide_eq_true (by kernel_rfl)) (by unfold Func.isWrapper; first | (rw [if_pos (by decide +kernel)]; kernel_rfl) | (rw [if_neg (by decide +kernel)]; exact ⟨rfl, rfl⟩))
    (fun os started H enc _ => lifted os started H enc)

/-! ### The tied card -/
theorem card_holds : Rows.LawS3141BModelCardSaid :=
  Claim7.holds_tied_plain_at .later [] [.data, .data, .data, .sentinel, .sentinel] true Rows.lawS3141BModelCard.stood.harness true
    row_holds (fun _ h => by cases h) (by kernel_rfl) (fun _ h => by cases h) lawS3141BModel_row_tie rfl ⟨rfl, rfl⟩ (by kernel_rfl) rfl
    (fun f fn hf hfn => by
      obtain rfl : f = 3 := Option.some.inj ((show Ybad.prog.funcNamed Rows.lawS3141BModelRow.func = some 3 by kernel_rfl).symm.trans hf) |>.symm
      obtain rfl : fn = Ybad.f3 := (Option.some.inj (Ybad.func3.symm.trans hfn)).symm
      exact ⟨by kernel_rfl, fun j t ht => by
        rw [Ybad.params3] at ht
        have hm : t ∈ [22, 23] := by simpa using Array.mem_of_getElem? ht
        have hall : ([22, 23].all fun u => !Ybad.prog.wantsStandIn u) = true := by kernel_rfl
        exact (show Ybad.prog.wantsStandIn t = false by simpa using List.all_eq_true.1 hall t hm)⟩)
    (by kernel_rfl)
end Go.Proofs.YbulkbmaiDoor.lawS3141BModel
namespace Go.Proofs.YbulkbmaiDoor
/-- THE STATEMENT: the tied card. -/
theorem lawS3141BModel_card : Rows.LawS3141BModelCardSaid := lawS3141BModel.card_holds
#print axioms lawS3141BModel_card
end Go.Proofs.YbulkbmaiDoor
