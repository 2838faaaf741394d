/- The law 'LawS3141BRound': its walk put together, the row, the tied card. -/
import Derived.Test.YbulkbmaiDoorRows
import Derived.Test.YbulkbmaiDoorTie
import Derived.Test.YbulkbmaiDoorCards
import Derived.Test.YbulkbmaiDoorLaid
import Derived.Test.YbulkbmaiDoorRound
import Derived.WalkKit
import Derived.ProofKit
import Derived.OpenShut
import Derived.ShutString
import Derived.ChangeOld
import Derived.Below
import Derived.SevenTiedAt
namespace Go.Proofs.YbulkbmaiDoor.lawS3141BRound
open Go.ChangeShapes Go.WideShapes Go.ChangeAt Go.RowKit
set_option linter.unusedVariables false

/-! ### The plain law: four hexadecimal digits of a table spell the number -/
theorem up_digit : ∀ a : Fin 16, hexD (((⟨#[48, 49, 50, 51, 52, 53, 54, 55, 56, 57, 65, 66, 67, 68, 69, 70]⟩ : ByteArray)[a.1]'a.2).toNat) = some a.1 := by decide +kernel
theorem low_digit : ∀ a : Fin 16, hexD (((⟨#[48, 49, 50, 51, 52, 53, 54, 55, 56, 57, 97, 98, 99, 100, 101, 102]⟩ : ByteArray)[a.1]'a.2).toNat) = some a.1 := by decide +kernel
theorem four {c0 c1 c2 c3 a0 a1 a2 a3 v : Nat} (h0 : hexD c0 = some a0) (h1 : hexD c1 = some a1) (h2 : hexD c2 = some a2) (h3 : hexD c3 = some a3) (hv : ((a0 * 16 + a1) * 16 + a2) * 16 + a3 = v) :
    hexV 0 ([(c0 : Int), (c1 : Int), (c2 : Int), (c3 : Int)].map Int.toNat) = some v := by
  simp only [List.map_cons, List.map_nil, Int.toNat_natCast]
  rw [hexV_some h0, hexV_some h1, hexV_some h2, hexV_some h3]
  simp [hexV, hv]

/-! ### The walk -/
theorem walk_long (ao bo : Option Addr) (n1 c1 n2 c2 : Nat) (v : Int) (up : Bool) (kp : Int) (w : World) (hm1 : n1 ≤ maxLen) (hm2 : n2 ≤ maxLen) (h : 4096 < n1 ∨ 4096 < n2) :
    Calls Ybad.prog 4 #[.slice ao n1 c1, .int .u16 v, .bool up, .int .u8 kp, .slice bo n2 c2] w fun e w' => e = .returned (.bool true) ∧ Below w.heap.size w w' := by
  unfold maxLen at hm1 hm2
  by_cases h1 : 4096 < n1
  · have h' : (4096 : Int) < (n1 : Int) := by omega
    clear h
    go_enter Ybad.func4, Ybad.ntmps4
    go_wp2
    go_ret
    exact ⟨rfl, Below.refl _ _⟩
  · have h2 : 4096 < n2 := by omega
    have h' : ¬ (4096 : Int) < (n1 : Int) := by omega
    have h'' : (4096 : Int) < (n2 : Int) := by omega
    clear h
    go_enter Ybad.func4, Ybad.ntmps4
    go_wp2
    go_ret
    exact ⟨rfl, Below.refl _ _⟩

theorem byte_le (b : UInt8) : (0 : Int) ≤ (b.toNat : Int) ∧ (b.toNat : Int) ≤ 255 := by have := b.toNat_lt; omega

theorem walk_short (ao bo : Option Addr) (n1 c1 n2 c2 : Nat) (z1 z2 : List Int) (v : Nat) (up : Bool) (kp : Int) (ev : Value) (w : World) (hn1 : n1 ≤ 4096) (hn2 : n2 ≤ 4096) (hv1 : v ≤ 65535) (hk0 : 0 ≤ kp) (hk1 : kp ≤ 255)
    (s1 : Src w w.heap.size ao n1 c1 z1) (s2 : Src w w.heap.size bo n2 c2 z2)
    (hc : w.cell? ⟨0, 0, none⟩ = some ev) (hev : ev = .nilIface ∨ ∃ te pe, ev = .iface te pe) :
    Calls Ybad.prog 4 #[.slice ao n1 c1, .int .u16 (v : Int), .bool up, .int .u8 kp, .slice bo n2 c2] w fun e w' => e = .returned (.bool true) ∧ Below w.heap.size w w' := by
  have b0 : bits .and .u16 ((v : Int) / 4096) 15 = ((v / 4096 % 16 : Nat) : Int) := by rw [u16_and15 _ (by omega) (by omega)]; omega
  have b1 : bits .and .u16 ((v : Int) / 256) 15 = ((v / 256 % 16 : Nat) : Int) := by rw [u16_and15 _ (by omega) (by omega)]; omega
  have b2 : bits .and .u16 ((v : Int) / 16) 15 = ((v / 16 % 16 : Nat) : Int) := by rw [u16_and15 _ (by omega) (by omega)]; omega
  have b3 : bits .and .u16 (v : Int) 15 = ((v % 16 : Nat) : Int) := by rw [u16_and15 _ (by omega) (by omega)]; omega
  have g0 : v / 4096 % 16 < 16 := Nat.mod_lt _ (by decide)
  have g1 : v / 256 % 16 < 16 := Nat.mod_lt _ (by decide)
  have g2 : v / 16 % 16 < 16 := Nat.mod_lt _ (by decide)
  have g3 : v % 16 < 16 := Nat.mod_lt _ (by decide)
  have hv : ((v / 4096 % 16 * 16 + v / 256 % 16) * 16 + v / 16 % 16) * 16 + v % 16 = v := by omega
  obtain ⟨k, ek⟩ : ∃ k : Nat, kp % 7 = (k : Int) := ⟨(kp % 7).toNat, by omega⟩
  have hk : k ≤ 6 := by omega
  cases up
  · by_cases h6 : k < 6
    · exact round_low_cut ao bo n1 c1 n2 c2 z1 z2 v _ _ _ _ k _ _ _ _ kp ev w hn1 hn2 hv1 hk0 hk1 b0 b1 b2 b3 g0 g1 g2 g3 rfl rfl rfl rfl ek h6 s1 s2 hc hev
    · exact round_low_whole ao bo n1 c1 n2 c2 z1 z2 v _ _ _ _ _ _ _ _ kp ev w hn1 hn2 hv1 hk0 hk1 b0 b1 b2 b3 g0 g1 g2 g3 rfl rfl rfl rfl (by omega) s1 s2
        (four (low_digit ⟨_, g0⟩) (low_digit ⟨_, g1⟩) (low_digit ⟨_, g2⟩) (low_digit ⟨_, g3⟩) hv) (by
          intro x hx
          simp only [List.mem_cons, List.not_mem_nil, or_false] at hx
          rcases hx with rfl | rfl | rfl | rfl <;> exact byte_le _) hc hev
  · by_cases h6 : k < 6
    · exact round_up_cut ao bo n1 c1 n2 c2 z1 z2 v _ _ _ _ k _ _ _ _ kp ev w hn1 hn2 hv1 hk0 hk1 b0 b1 b2 b3 g0 g1 g2 g3 rfl rfl rfl rfl ek h6 s1 s2 hc hev
    · exact round_up_whole ao bo n1 c1 n2 c2 z1 z2 v _ _ _ _ _ _ _ _ kp ev w hn1 hn2 hv1 hk0 hk1 b0 b1 b2 b3 g0 g1 g2 g3 rfl rfl rfl rfl (by omega) s1 s2
        (four (up_digit ⟨_, g0⟩) (up_digit ⟨_, g1⟩) (up_digit ⟨_, g2⟩) (up_digit ⟨_, g3⟩) hv) (by
          intro x hx
          simp only [List.mem_cons, List.not_mem_nil, or_false] at hx
          rcases hx with rfl | rfl | rfl | rfl <;> exact byte_le _) hc hev

/-! ### The row -/
set_option maxRecDepth 100000 in
theorem lifted (os : Os) (started : os.Started) (H : Type) (enc : TypeId × Value → H) :
    ReturnsInHanded {} Ybad.checked os 4 .any (fun w args => (Rows.lawS3141BRoundSpec.pre enc Ybad.prog Ybad.f4 Rows.lawS3141BRoundRow.domain false w args ∧ laidMetH Ybad.prog Rows.lawS3141BRoundRow.laid w) ∧ sizedMet enc Ybad.prog Ybad.f4 (OpenSpec.ofChange Rows.lawS3141BRoundSpec) false w args)
      (Rows.lawS3141BRoundSpec.post enc Ybad.prog Ybad.f4 false true false false) := by
  refine returnsInHanded_of_change_and (C := Ybad.checked) (X := fun w _ => laidMetH Ybad.prog Rows.lawS3141BRoundRow.laid w) (fun _ _ _ hh h => h.of_heap hh) own started (by kernel_rfl) Ybad.func4
    (ChangeSpec.witness_shaped (enc := enc) (C := Ybad.checked) (os := os) (X := fun w _ => laidMetH Ybad.prog Rows.lawS3141BRoundRow.laid w) false (World.doorLaid Ybad.prog 62 os) #[.slice none 0 0, .int .u16 0, .bool false, .int .u8 0, .slice none 0 0] 8 rfl (World.shaped_of_RefB (by kernel_rfl) (by kernel_rfl)) (by kernel_rfl) (by kernel_rfl) (by kernel_rfl) (door_met os _)) ?_
  intro W base args ds gs before hval0 hW _ _ hL _
  have hval : ∀ (j : Nat) t v, Ybad.f4.params[j]? = some t → args[j]? = some v → Value.okWide Ybad.prog W .any base t v := hval0
  have hW' := hW
  obtain ⟨p, q, hA0, hV, rfl, hfz, hnd⟩ := hW
  have hA : DataW.TrodAll enc Ybad.prog W 0 (fun _ => true) true Ybad.f4.params.toList args.toList ds p := hA0
  rw [Ybad.params4] at hA hval
  obtain ⟨v0, vs0, d0, ds0, p0, q0, hargs, rfl, rfl, h0, r0⟩ := trodAll_cons hA
  obtain ⟨v1, vs1, d1, ds1, p1, q1, rfl, rfl, rfl, h1, r1⟩ := trodAll_cons r0
  obtain ⟨v2, vs2, d2, ds2, p2, q2, rfl, rfl, rfl, h2, r2⟩ := trodAll_cons r1
  obtain ⟨v3, vs3, d3, ds3, p3, q3, rfl, rfl, rfl, h3, r3⟩ := trodAll_cons r2
  obtain ⟨v4, vs4, d4, ds4, p4, q4, rfl, rfl, rfl, h4, r4⟩ := trodAll_cons r3
  obtain ⟨rfl, rfl, rfl⟩ := trodAll_nil r4
  obtain rfl : args = #[v0, v1, v2, v3, v4] := by cases args; simp_all
  obtain ⟨rfl, rfl⟩ := trodVars_none hV
  obtain ⟨a0, len0, cap0, rfl⟩ := okWide_slice Ybad.underlying22 (hval 0 22 v0 rfl rfl)
  obtain ⟨a4, len4, cap4, rfl⟩ := okWide_slice Ybad.underlying22 (hval 4 22 v4 rfl rfl)
  have k0 := h0
  have k4 := h4
  have lt0 : ∀ x ∈ p0, x.block < W.heap.size := by obtain ⟨m, hm⟩ := k0; exact DataW.trod_lt m _ _ _ hm
  have lt4 : ∀ x ∈ p4, x.block < W.heap.size := by obtain ⟨m, hm⟩ := k4; exact DataW.trod_lt m _ _ _ hm
  obtain ⟨z0, s0, m0⟩ := open_src h0
  obtain ⟨z4, s4, m4⟩ := open_src h4
  obtain ⟨x1, rfl, rfl, rfl, w1⟩ := open_int Ybad.underlying23 (hval 1 23 v1 rfl rfl) h1
  obtain ⟨up, rfl, rfl, rfl⟩ := open_bool Ybad.underlying4 (hval 2 4 v2 rfl rfl) h2
  obtain ⟨x3, rfl, rfl, rfl, w3⟩ := open_int Ybad.underlying5 (hval 3 5 v3 rfl rfl) h3
  obtain ⟨ev, hc, hev⟩ := err_cell hL
  have fin : Calls Ybad.prog 4 #[.slice a0 len0 cap0, .int .u16 x1, .bool up, .int .u8 x3, .slice a4 len4 cap4] W fun e w' => e = .returned (.bool true) ∧ Below W.heap.size W w' := by
    obtain ⟨b1, b2⟩ := bounds_u16 w1
    obtain ⟨b3, b4⟩ := bounds_u8 w3
    by_cases hl : 4096 < len0 ∨ 4096 < len4
    · exact walk_long a0 a4 len0 cap0 len4 cap4 x1 up x3 W m0 m4 hl
    · obtain ⟨v, rfl⟩ : ∃ v : Nat, x1 = (v : Int) := ⟨x1.toNat, by omega⟩
      exact walk_short a0 a4 len0 cap0 len4 cap4 z0 z4 v up x3 ev W (by omega) (by omega) (by omega) b3 b4 s0 s4 hc hev
  clear hA0 hval0
  refine fin.mono fun e W' ⟨he, bel⟩ => ?_
  subst he
  exact ⟨_, rfl, _, _, _, [], _, [], hW', trodAll_mk1 (shut_bool Ybad.underlying4 _), (trodAll_cons_mk (Below.trod laidOut (by kernel_rfl) (of_decide_eq_true (by kernel_rfl)) k0 bel lt0) (trodAll_cons_mk (shut_int Ybad.underlying23 w1) (trodAll_cons_mk (shut_bool Ybad.underlying4 _) (trodAll_cons_mk (shut_int Ybad.underlying5 w3) (trodAll_cons_mk (Below.trod laidOut (by kernel_rfl) (of_decide_eq_true (by kernel_rfl)) k4 bel lt4) trodAll_mk0))))), rfl, bel.frame _, fun h => by cases h⟩

theorem row_holds : Rows.LawS3141BRoundSaid :=
  OpenClaim.holds_of_wide 4 Ybad.f4 rfl rfl rfl rfl rfl rfl rfl ⟨rfl, rfl, rfl, rfl, rfl⟩ rfl rfl rfl rfl rfl (by kernel_rfl) Ybad.func4 (by kernel_rfl)
    (of_decide_eq_true (by kernel_rfl)) (by unfold Func.isWrapper; first | (rw [if_pos (by decide +kernel)]; kernel_rfl) | (rw [if_neg (by decide +kernel)]; exact ⟨rfl, rfl⟩))
    (fun os started H enc _ => lifted os started H enc)

/-! ### The tied card -/
theorem card_holds : Rows.LawS3141BRoundCardSaid :=
  Claim7.holds_tied_plain_at .later [] [.data, .data, .data, .sentinel, .sentinel] true Rows.lawS3141BRoundCard.stood.harness true
    row_holds (fun _ h => by cases h) (by kernel_rfl) (fun _ h => by cases h) lawS3141BRound_row_tie rfl ⟨rfl, rfl⟩ (by kernel_rfl) rfl
    (fun f fn hf hfn => by
      obtain rfl : f = 4 := Option.some.inj ((show Ybad.prog.funcNamed Rows.lawS3141BRoundRow.func = some 4 by kernel_rfl).symm.trans hf) |>.symm
      obtain rfl : fn = Ybad.f4 := (Option.some.inj (Ybad.func4.symm.trans hfn)).symm
      exact ⟨by kernel_rfl, fun j t ht => by
        rw [Ybad.params4] at ht
        have hm : t ∈ [22, 23, 4, 5, 22] := by simpa using Array.mem_of_getElem? ht
        have hall : ([22, 23, 4, 5, 22].all fun u => !Ybad.prog.wantsStandIn u) = true := by kernel_rfl
        exact (show Ybad.prog.wantsStandIn t = false by simpa using List.all_eq_true.1 hall t hm)⟩)
    (by kernel_rfl)
end Go.Proofs.YbulkbmaiDoor.lawS3141BRound
namespace Go.Proofs.YbulkbmaiDoor
/-- THE STATEMENT: the tied card. -/
theorem lawS3141BRound_card : Rows.LawS3141BRoundCardSaid := lawS3141BRound.card_holds
#print axioms lawS3141BRound_card
end Go.Proofs.YbulkbmaiDoor
