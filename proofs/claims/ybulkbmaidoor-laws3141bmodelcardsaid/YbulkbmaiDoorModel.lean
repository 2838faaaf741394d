/- The law's own model of an escape ('zzs3141bhex', 'zzs3141bmodel'): it answers as 'unit' does. -/
import Derived.Test.YbulkbmaiDoorUnit
import Derived.Test.YbulkbmaiDoorSrc
import Derived.WalkSmall
namespace Go.Proofs.YbulkbmaiDoor
open Go.RowKit
set_option linter.unusedVariables false

set_option maxHeartbeats 1000000 in
theorem hex_some (c : Nat) (d : Nat) (hd : hexD c = some d) (hc : c < 256) (w : World) :
    Calls Ybad.prog 9 #[.int .u8 (c : Int)] w fun e w' => e = .returned (.tuple #[.int .i32 (d : Int), .bool true]) ∧ w = w' := by
  by_cases h1 : 48 ≤ c ∧ c ≤ 57
  · obtain ⟨h1, h2⟩ := h1
    rw [hexD_num h1 h2] at hd
    obtain rfl := Option.some.inj hd
    clear hd
    have e1 : ((c - 48 : Nat) : Int) = (c : Int) - 48 := by omega
    rw [e1]
    go_enter Ybad.func9, Ybad.ntmps9
    go_wp2
    go_ret2
    exact ⟨rfl, rfl⟩
  · by_cases h2 : 97 ≤ c ∧ c ≤ 102
    · obtain ⟨h2, h3⟩ := h2
      rw [hexD_low h2 h3] at hd
      obtain rfl := Option.some.inj hd
      clear hd h1
      have e1 : ((c - 87 : Nat) : Int) = (c : Int) - 97 + 10 := by omega
      rw [e1]
      go_enter Ybad.func9, Ybad.ntmps9
      go_wp2
      go_ret2
      exact ⟨rfl, rfl⟩
    · by_cases h3 : 65 ≤ c ∧ c ≤ 70
      · obtain ⟨h3, h4⟩ := h3
        rw [hexD_up h3 h4] at hd
        obtain rfl := Option.some.inj hd
        clear hd h1 h2
        have e1 : ((c - 55 : Nat) : Int) = (c : Int) - 65 + 10 := by omega
        rw [e1]
        go_enter Ybad.func9, Ybad.ntmps9
        go_wp2
        go_ret2
        exact ⟨rfl, rfl⟩
      · rw [hexD_no h1 h2 h3] at hd
        simp at hd

set_option maxHeartbeats 1000000 in
theorem hex_none (c : Nat) (hd : hexD c = none) (hc : c < 256) (w : World) :
    Calls Ybad.prog 9 #[.int .u8 (c : Int)] w fun e w' => e = .returned (.tuple #[.int .i32 0, .bool false]) ∧ w = w' := by
  have hw : c < 48 ∨ (57 < c ∧ c < 65) ∨ (70 < c ∧ c < 97) ∨ 102 < c := by
    unfold hexD at hd
    split at hd
    · simp at hd
    · split at hd
      · simp at hd
      · split at hd
        · simp at hd
        · omega
  clear hd
  rcases hw with h | ⟨h, h'⟩ | ⟨h, h'⟩ | h
  all_goals
    go_enter Ybad.func9, Ybad.ntmps9
    go_wp2
    go_ret2
    exact ⟨rfl, rfl⟩

set_option maxHeartbeats 1000000 in
theorem model_short (ao : Option Addr) (n cap i : Nat) (w : World) (hn : n ≤ 100000) (hi : i ≤ 100000) (hs : n < i + 6) :
    Calls Ybad.prog 6 #[.slice ao n cap, .int .i64 (i : Int)] w fun e w' => e = .returned (.int .i32 (-1)) ∧ w = w' := by
  have h0 : ¬ (i : Int) < 0 := by omega
  by_cases hni : n < i
  · have hl : (n : Int) < (i : Int) := by omega
    go_enter Ybad.func6, Ybad.ntmps6
    go_wp2
    go_ret
    exact ⟨rfl, rfl⟩
  · have hl : ¬ (n : Int) < (i : Int) := by omega
    have hl2 : (n : Int) - (i : Int) < 6 := by omega
    go_enter Ybad.func6, Ybad.ntmps6
    go_wp2
    go_ret
    exact ⟨rfl, rfl⟩

set_option maxHeartbeats 1000000 in
theorem model_no (d o n cap i : Nat) (x y : Int) (w : World) (hn : n ≤ 100000) (hs : i + 6 ≤ n)
    (h1 : w.cell? ⟨d, o + i, none⟩ = some (.int .u8 x)) (h2 : w.cell? ⟨d, o + (i + 1), none⟩ = some (.int .u8 y)) (hxy : ¬ (x = 92 ∧ y = 117)) :
    Calls Ybad.prog 6 #[.slice (some ⟨d, o, none⟩) n cap, .int .i64 (i : Int)] w fun e w' => e = .returned (.int .i32 (-1)) ∧ w = w' := by
  have h0 : ¬ (i : Int) < 0 := by omega
  have hl : ¬ (n : Int) < (i : Int) := by omega
  have hl2 : ¬ (n : Int) - (i : Int) < 6 := by omega
  have hl3 : (i : Int) < (n : Int) := by omega
  have hl4 : (i : Int) + 1 < (n : Int) := by omega
  by_cases hx : x = 92
  · have hy : (y != 117) = true := by simp; omega
    subst hx
    clear hxy
    go_enter Ybad.func6, Ybad.ntmps6
    go_wp2
    go_ret
    exact ⟨rfl, rfl⟩
  · have hy : (x != 92) = true := by simpa using hx
    clear hxy hx
    go_enter Ybad.func6, Ybad.ntmps6
    go_wp2
    go_ret
    exact ⟨rfl, rfl⟩

set_option maxHeartbeats 2000000 in
theorem model_hex (d o n cap i : Nat) (bs : List Nat) (w : World) (hn : n ≤ 100000) (hs : i + 6 ≤ n)
    (h1 : w.cell? ⟨d, o + i, none⟩ = some (.int .u8 92)) (h2 : w.cell? ⟨d, o + (i + 1), none⟩ = some (.int .u8 117)) (hbs : bs.length = 4) (hr : ∀ j, bs.getD j 0 < 256)
    (h3 : ∀ j, j < 4 → w.cell? ⟨d, o + (i + (2 + j)), none⟩ = some (.int .u8 ((bs.getD j 0 : Nat) : Int))) :
    Calls Ybad.prog 6 #[.slice (some ⟨d, o, none⟩) n cap, .int .i64 (i : Int)] w fun e w' => e = .returned (.int .i32 (hexI (hexV 0 bs))) ∧ w = w' := by
  have h0 : ¬ (i : Int) < 0 := by omega
  have hl : ¬ (n : Int) < (i : Int) := by omega
  have hl2 : ¬ (n : Int) - (i : Int) < 6 := by omega
  have hl3 : (i : Int) < (n : Int) := by omega
  have hl4 : (i : Int) + 1 < (n : Int) := by omega
  have HB : Hid ((∀ j, bs.getD j 0 < 256) ∧ ∀ j, j < 4 → w.cell? ⟨d, o + (i + (2 + j)), none⟩ = some (.int .u8 ((bs.getD j 0 : Nat) : Int))) := ⟨hr, h3⟩
  clear hr h3
  go_enter Ybad.func6, Ybad.ntmps6
  go_wp2
  go_loop [5, 6] (fun vv vk => ∃ (k acc : Nat) (a : Int), vv = .int .i32 a ∧ vk = .int .i64 ((2 + k : Nat) : Int) ∧ k ≤ 4 ∧ Hid (a = (acc : Int) ∧ acc < 16 ^ k ∧ hexV 0 bs = hexV acc (bs.drop k)))
    (fun _ vk => 6 - (intOf vk).toNat)
  case atStart => exact ⟨0, 0, 0, rfl, rfl, by omega, rfl, by decide, rfl⟩
  case round =>
    obtain ⟨k, acc, a, rfl, rfl, hk, hh⟩ := hrel
    obtain ⟨ha, hacc, hdec⟩ := hh.out
    clear hh h1 h2
    by_cases hkn : k < 4
    · have hc := HB.out.2 k hkn
      have hc256 := HB.out.1 k
      have hdrop : bs.drop k = bs.getD k 0 :: bs.drop (k + 1) := by
        rw [List.drop_eq_getElem_cons (by omega)]
        simp [List.getD, List.getElem?_eq_getElem (show k < bs.length by omega)]
      rw [hdrop] at hdec
      generalize bs.getD k 0 = c at hc hdec hc256
      have ha4 := pow_lt hkn hacc
      have a0 : 0 ≤ a := by omega
      have a1 : a < 4096 := by omega
      have hkl : (2 : Int) + (k : Int) < 6 := by omega
      have hkl2 : (i : Int) + (2 + (k : Int)) < (n : Int) := by omega
      clear HB hdrop
      cases hd : hexD c with
      | some dd =>
        have hd16 := hexD_lt hd
        have hH := hex_some c dd hd hc256
        have HN : Hid (a * 16 + (dd : Int) = ((acc * 16 + dd : Nat) : Int) ∧ acc * 16 + dd < 16 ^ (k + 1) ∧ hexV 0 bs = hexV (acc * 16 + dd) (bs.drop (k + 1))) := ⟨by omega, by rw [Nat.pow_succ]; omega, hdec.trans (hexV_some hd)⟩
        clear hd hdec hacc ha
        go_wp2_with (go_at_call 9; refine (hH _).mono ?_; rintro e w' ⟨rfl, rfl⟩)
        go_round
        case rel => exact ⟨k + 1, _, a * 16 + (dd : Int), by go_num, by go_num, by omega, HN⟩
        case measure => simp [intOf]; omega
      | none =>
        have hH := hex_none c hd hc256
        have HF : Hid (hexV 0 bs = none) := hdec.trans (hexV_none hd)
        clear hd hdec hacc ha
        go_wp2_with (go_at_call 9; refine (hH _).mono ?_; rintro e w' ⟨rfl, rfl⟩)
        go_ret
        exact ⟨by rw [HF.out]; rfl, rfl⟩
    · have hkk : k = 4 := by omega
      subst hkk
      rw [List.drop_eq_nil_of_le (by omega)] at hdec
      have HF : Hid (hexV 0 bs = some acc) := hdec
      subst ha
      clear hacc hdec
      go_wp2
      go_ret
      exact ⟨by rw [HF.out]; rfl, rfl⟩
end Go.Proofs.YbulkbmaiDoor
