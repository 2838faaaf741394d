/- internal/strconv.ParseUint(s, 16, 16) at a string of four bytes: the number that four hexadecimal digits spell; else (0, ErrSyntax). After the shelf's own walk at base 10. -/
import Derived.Test.YbulkbmaiDoorProg
import Derived.Test.YbulkbmaiDoorPlain
import Derived.WalkKit
import Derived.BigCall
import Derived.BigGuard
import Derived.Lib.ConvBytes
import Derived.Lib.Hide
import Derived.Lib.Walk
import Derived.Lib.Strings
namespace Go.Proofs.YbulkbmaiDoor
open Go.RowKit

theorem low_bits : ∀ c : Nat, c < 256 → ((97 ≤ bits .or .u8 (c : Int) 32 ∧ bits .or .u8 (c : Int) 32 ≤ 122) ↔ ((97 ≤ c ∧ c ≤ 122) ∨ (65 ≤ c ∧ c ≤ 90))) ∧ (97 ≤ c → c ≤ 122 → bits .or .u8 (c : Int) 32 = c) ∧ (65 ≤ c → c ≤ 90 → bits .or .u8 (c : Int) 32 = c + 32) := by
  decide +kernel

theorem lower_any (c : Int) (w : World) : Calls Ybad.prog 12 #[.int .u8 c] w fun e w' => e = .returned (.int .u8 (bits .or .u8 c 32)) ∧ w = w' := by
  go_enter Ybad.func12, Ybad.ntmps12
  go_wp2
  go_ret
  exact ⟨rfl, rfl⟩

theorem pow_lt {k acc : Nat} (hk : k < 4) (h : acc < 16 ^ k) : acc < 4096 := by
  rcases (show k = 0 ∨ k = 1 ∨ k = 2 ∨ k = 3 by omega) with rfl | rfl | rfl | rfl <;> simp at h <;> omega

/-- What ParseUint hands back: the number and nil; or 0 and the inner package's ErrSyntax. -/
def hexTuple : Option Nat → Value
  | some v => .tuple #[.int .u64 (v : Int), .nilIface]
  | none => .tuple #[.int .u64 0, .iface 41 (.int .i64 2)]

set_option maxHeartbeats 2000000 in
set_option maxRecDepth 100000 in
theorem parse_any (t : ByteArray) (h4 : t.size = 4) (w : World) :
    Calls Ybad.prog 10 #[.string t, .int .i64 16, .int .i64 16] w fun e w' => e = .returned (hexTuple (hexV 0 (t.data.toList.map UInt8.toNat))) ∧ w' = Lib.bytesWorld w 5 t := by
  have hemp : t.toList.isEmpty = false := by
    rw [← decide_eq_emptyBytes]
    exact decide_eq_false (fun h => by rw [h] at h4; exact absurd h4 (by decide))
  have hcv := Lib.run_convert_string_bytes (P := Ybad.prog) w 9 22 5 t (u := .string) Ybad.underlying9 Ybad.underlying22 Ybad.underlying5
  have hB : ∀ j, j < 4 → (Lib.bytesWorld w 5 t).cell? ⟨w.heap.size, j, none⟩ = some (.int .u8 (((t.data.toList.map UInt8.toNat).getD j 0 : Nat) : Int)) := fun j hj => by
    rw [Lib.bytesWorld_cell w 5 t j (by omega)]
    simp only [List.getD, List.getElem?_map]
    cases t.data.toList[j]? with
    | none => rfl
    | some c => rfl
  obtain ⟨W1, hW1⟩ : ∃ W1, W1 = Lib.bytesWorld w 5 t := ⟨_, rfl⟩
  have hlt : ∀ j, (t.data.toList.map UInt8.toNat).getD j 0 < 256 := fun j => by
    simp only [List.getD, List.getElem?_map]
    cases t.data.toList[j]? with
    | none => simp
    | some c => simpa using c.toNat_lt
  have hLn : (t.data.toList.map UInt8.toNat).length = 4 := by rw [List.length_map, Array.length_toList]; exact h4
  rw [← hW1] at hcv hB ⊢
  clear hW1
  obtain ⟨bs, hL⟩ : ∃ bs, bs = t.data.toList.map UInt8.toNat := ⟨_, rfl⟩
  rw [← hL] at hB hlt hLn ⊢
  clear hL
  rw [h4] at hcv
  go_enter Ybad.func10, Ybad.ntmps10
  go_wp2
  go_loop [12, 13, 101] (fun vu vn vi => ∃ (k acc : Nat) (a : Int), vu = .bool false ∧ vn = .int .u64 a ∧ vi = .int .i64 k ∧ k ≤ 4 ∧ Hid (a = (acc : Int) ∧ acc < 16 ^ k ∧ hexV 0 bs = hexV acc (bs.drop k)))
    (fun _ _ vi => 4 - (intOf vi).toNat)
  case atStart => exact ⟨0, 0, 0, rfl, rfl, rfl, by omega, rfl, by decide, rfl⟩
  case round =>
    obtain ⟨k, acc, a, rfl, rfl, rfl, hk, hh⟩ := hrel
    obtain ⟨ha, hacc, hdec⟩ := hh.out
    clear hh
    by_cases hkn : k < 4
    · have hc := hB k hkn
      have hc256 := hlt k
      have hdrop : bs.drop k = bs.getD k 0 :: bs.drop (k + 1) := by
        rw [List.drop_eq_getElem_cons (by omega)]
        simp [List.getD, List.getElem?_eq_getElem (show k < bs.length by omega)]
      rw [hdrop] at hdec
      generalize bs.getD k 0 = c at hc hdec hc256
      have ha4 := pow_lt hkn hacc
      have a0 : 0 ≤ a := by omega
      have a1 : a < 4096 := by omega
      obtain ⟨lb1, lb2, lb3⟩ := low_bits c hc256
      obtain ⟨lw, hlw⟩ : ∃ lw, bits .or .u8 (c : Int) 32 = lw := ⟨_, rfl⟩
      rw [hlw] at lb1 lb2 lb3
      have hv0 := bits_lo_u8 .or (c : Int) 32
      have hv1 := bits_hi_u8 .or (c : Int) 32
      rw [hlw] at hv0 hv1
      clear hB hdrop hlt hcv hemp
      by_cases hdig : 48 ≤ c ∧ c ≤ 57
      · obtain ⟨hd0, hd1⟩ := hdig
        have HN : Hid (a * 16 + ((c : Int) - 48) = ((acc * 16 + (c - 48) : Nat) : Int) ∧ acc * 16 + (c - 48) < 16 ^ (k + 1) ∧ hexV 0 bs = hexV (acc * 16 + (c - 48)) (bs.drop (k + 1))) := Lib.hid ⟨by omega, by rw [Nat.pow_succ]; omega, hdec.trans (hexV_some (hexD_num hd0 hd1))⟩
        clear hdec hacc ha lb1 lb2 lb3
        go_wp2
        go_round
        case rel => exact ⟨k + 1, _, a * 16 + ((c : Int) - 48), rfl, by go_num, by go_num, by omega, HN⟩
        case measure => simp [intOf]; omega
      · by_cases hlow : 97 ≤ c ∧ c ≤ 102
        · obtain ⟨hd0, hd1⟩ := hlow
          have e1 := lb2 (by omega) (by omega)
          have HN : Hid (a * 16 + ((c : Int) - 97 + 10) = ((acc * 16 + (c - 87) : Nat) : Int) ∧ acc * 16 + (c - 87) < 16 ^ (k + 1) ∧ hexV 0 bs = hexV (acc * 16 + (c - 87)) (bs.drop (k + 1))) := Lib.hid ⟨by omega, by rw [Nat.pow_succ]; omega, hdec.trans (hexV_some (hexD_low hd0 hd1))⟩
          subst e1
          clear hdec hacc ha lb1 lb2 lb3 hdig
          go_wp2_with (go_at_call 12; refine (lower_any _ _).mono ?_; rintro e w' ⟨rfl, rfl⟩)
          go_round
          case rel => exact ⟨k + 1, _, a * 16 + ((c : Int) - 97 + 10), rfl, by go_num, by go_num, by omega, HN⟩
          case measure => simp [intOf]; omega
        · by_cases hup : 65 ≤ c ∧ c ≤ 70
          · obtain ⟨hd0, hd1⟩ := hup
            have e1 := lb3 (by omega) (by omega)
            have HN : Hid (a * 16 + (lw - 97 + 10) = ((acc * 16 + (c - 55) : Nat) : Int) ∧ acc * 16 + (c - 55) < 16 ^ (k + 1) ∧ hexV 0 bs = hexV (acc * 16 + (c - 55)) (bs.drop (k + 1))) := Lib.hid ⟨by omega, by rw [Nat.pow_succ]; omega, hdec.trans (hexV_some (hexD_up hd0 hd1))⟩
            have g0 : 97 ≤ lw := by omega
            have g1 : lw ≤ 102 := by omega
            clear hdec hacc ha lb1 lb2 lb3 hdig hlow e1
            go_wp2_with (go_at_call 12; refine (lower_any _ _).mono ?_; rintro e w' ⟨rfl, rfl⟩)
            go_round
            case rel => exact ⟨k + 1, _, a * 16 + (lw - 97 + 10), rfl, by go_num, by go_num, by omega, HN⟩
            case measure => simp [intOf]; omega
          · have HF : Hid (hexV 0 bs = none) := hdec.trans (hexV_none (hexD_no hdig hlow hup))
            clear hdec hacc ha
            by_cases hlet : 97 ≤ lw ∧ lw ≤ 122
            · have hcc : (71 ≤ c ∧ c ≤ 90) ∨ (103 ≤ c ∧ c ≤ 122) := by have := lb1.1 hlet; omega
              have g2 : 103 ≤ lw := by
                rcases hcc with h | h
                · have := lb3 (by omega) (by omega); omega
                · have := lb2 (by omega) (by omega); omega
              have g3 := hlet.2
              clear lb1 lb2 lb3 hdig hlow hup hlet
              rcases hcc with ⟨h1, h2⟩ | ⟨h1, h2⟩
              all_goals
                go_wp2_with (go_at_call 12; refine (lower_any _ _).mono ?_; rintro e w' ⟨rfl, rfl⟩)
                go_ret2
                exact ⟨by rw [HF.out]; rfl, rfl⟩
            · have hcc : c < 48 ∨ (57 < c ∧ c < 95) ∨ c = 95 ∨ 95 < c := by omega
              have hll : lw < 97 ∨ 122 < lw := by omega
              clear lb1 lb2 lb3 hdig hlow hup hlet
              rcases hcc with h1 | ⟨h1, h2⟩ | h1 | h1
              all_goals try subst h1
              all_goals rcases hll with h3 | h3
              all_goals
                go_wp2_with (go_at_call 12; refine (lower_any _ _).mono ?_; rintro e w' ⟨rfl, rfl⟩)
                go_ret2
                exact ⟨by rw [HF.out]; rfl, rfl⟩
    · have hkk : k = 4 := by omega
      subst hkk
      rw [List.drop_eq_nil_of_le (by omega)] at hdec
      have HF : Hid (hexV 0 bs = some acc) := hdec
      subst ha
      clear hacc hdec
      go_wp2
      go_ret2
      exact ⟨by rw [HF.out]; rfl, rfl⟩
end Go.Proofs.YbulkbmaiDoor
