/- The walk of 'LawS3148CCount' (func 5). -/
import Derived.Test.YbulkbmecKnown
import Derived.LoopTactic
import Derived.Below
namespace Go.Proofs.Ybulkbmec
open Go.RowKit
set_option linter.unusedVariables false

/-- How many codes below k are known. -/
def cnt : Nat → Nat
  | 0 => 0
  | k + 1 => cnt k + (kn (k : Int)).toNat

theorem cnt_le (k : Nat) : cnt k ≤ k := by
  induction k with
  | zero => exact Nat.le_refl _
  | succ k ih => unfold cnt; have : (kn (k : Int)).toNat ≤ 1 := Bool.toNat_le _; omega
theorem cnt_all : cnt 256 = 6 := by decide +kernel

theorem known_is (c : Int) (b : Bool) (h : b = kn c) (w : World) : Calls Yba.prog 10 #[.int .u8 c] w fun e w' => e = .returned (.bool b) ∧ w = w' := by
  refine (known_any c w).mono ?_
  rintro e w' ⟨rfl, rfl⟩
  exact ⟨by rw [h], rfl⟩

set_option maxHeartbeats 1000000 in
theorem count_walk (w : World) : Calls Yba.prog 5 #[] w fun e w' => e = .returned (.bool true) ∧ Grown w w' := by
  go_enter Yba.func5, Yba.ntmps5
  go_wp2_with fail
  go_loop [1, 2] (fun n i => ∃ k : Nat, k ≤ 256 ∧ i = .int .i64 k ∧ n = .int .i64 (cnt k)) (fun _ i => 256 - (intOf i).toNat)
  case atStart => exact ⟨0, Nat.zero_le _, rfl, rfl⟩
  case round =>
    obtain ⟨k, hk, rfl, rfl⟩ := hrel
    have hc := cnt_le k
    obtain ⟨m, hm⟩ : ∃ m, m = cnt k := ⟨_, rfl⟩
    rw [← hm] at hc ⊢
    have HM : Hid (m = cnt k) := hm
    clear hm
    by_cases hlt : k < 256
    · have hl : (k : Int) < 256 := by omega
      obtain ⟨v, hv⟩ : ∃ v, v = kn (k : Int) := ⟨_, rfl⟩
      have HV : Hid (v = kn (k : Int)) := hv
      clear hv
      cases v with
      | true =>
        go_wp2_with (go_at_call 10; refine (known_is _ true HV.out _).mono ?_; rintro e w' ⟨rfl, rfl⟩)
        go_round
        case rel => exact ⟨k + 1, by omega, by go_num, by unfold cnt; rw [← HV.out, ← HM.out]; go_num⟩
        case measure => simp [intOf]; omega
      | false =>
        go_wp2_with (go_at_call 10; refine (known_is _ false HV.out _).mono ?_; rintro e w' ⟨rfl, rfl⟩)
        go_round
        case rel => exact ⟨k + 1, by omega, by go_num, by unfold cnt; rw [← HV.out, ← HM.out]; go_num⟩
        case measure => simp [intOf]; omega
    · have h6 : k = 256 := by omega
      subst h6
      have h7 : m = 6 := HM.out.trans cnt_all
      subst h7
      go_wp2_with (go_at_call 10; refine (known_is _ true rfl _).mono ?_; rintro e w' ⟨rfl, rfl⟩)
      go_ret
      exact ⟨rfl, Grown.refl _⟩
end Go.Proofs.Ybulkbmec
