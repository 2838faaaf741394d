/- strconv.ParseUint(s, 16, 16) at four bytes, with its road of the error; '(*jsonText).unit'. -/
import Derived.Test.YbulkbmaiDoorParse
import Derived.Test.YbulkbmaiDoorShelf
import Derived.Laws.BytesArg
import Derived.Lib.AtoiErrMem
namespace Go.Proofs.YbulkbmaiDoor
open Go.RowKit

theorem bytesWorld_below (w : World) (e : TypeId) (s : ByteArray) : Below w.heap.size w (Lib.bytesWorld w e s) :=
  ⟨rfl, rfl, rfl, by rw [Lib.bytesWorld_size]; omega, fun k hk => Lib.bytesWorld_at_old w e s k hk⟩

set_option maxHeartbeats 1000000 in
set_option maxRecDepth 100000 in
theorem pub_ok (t : ByteArray) (h4 : t.size = 4) (v : Nat) (hv : hexV 0 (t.data.toList.map UInt8.toNat) = some v) (w : World) :
    Calls Ybad.prog 8 #[.string t, .int .i64 16, .int .i64 16] w fun e w' => e = .returned (.tuple #[.int .u64 (v : Int), .nilIface]) ∧ Below w.heap.size w w' := by
  have hI := parse_any t h4 w
  rw [hv] at hI
  have hI' : Calls Ybad.prog 10 #[.string t, .int .i64 16, .int .i64 16] w fun e w' => e = .returned (.tuple #[.int .u64 (v : Int), .nilIface]) ∧ w' = Lib.bytesWorld w 5 t := hI
  clear hI hv h4
  have hb := bytesWorld_below w 5 t
  go_enter Ybad.func8, Ybad.ntmps8
  go_wp2_with (go_at_call 10; refine hI'.mono ?_; rintro e W1 ⟨rfl, rfl⟩)
  go_ret2
  exact ⟨rfl, hb⟩

set_option maxHeartbeats 1000000 in
set_option maxRecDepth 100000 in
theorem pub_no (t : ByteArray) (h4 : t.size = 4) (hv : hexV 0 (t.data.toList.map UInt8.toNat) = none) (ev : Value) (w : World) (hc : w.cell? ⟨0, 0, none⟩ = some ev) (hev : ev = .nilIface ∨ ∃ te pe, ev = .iface te pe) :
    Calls Ybad.prog 8 #[.string t, .int .i64 16, .int .i64 16] w fun e w' => ∃ N, e = .returned (.tuple #[.int .u64 0, .iface 44 (.pointer (some ⟨N, 0, none⟩))]) ∧ Below w.heap.size w w' := by
  have hI := parse_any t h4 w
  rw [hv] at hI
  have hI' : Calls Ybad.prog 10 #[.string t, .int .i64 16, .int .i64 16] w fun e w' => e = .returned (.tuple #[.int .u64 0, .iface 41 (.int .i64 2)]) ∧ w' = Lib.bytesWorld w 5 t := hI
  clear hI hv
  have hG : 0 < w.heap.size := World.block_lt_of_cell? _ _ hc
  go_enter Ybad.func8, Ybad.ntmps8
  go_wp2_with (go_at_call 10; refine hI'.mono ?_)
  rintro e W1 ⟨rfl, hW⟩
  have hb1 : Below w.heap.size w W1 := by rw [hW]; exact bytesWorld_below w 5 t
  have hv1 : W1.cell? ⟨0, 0, none⟩ = some ev := (hb1.cell (show (⟨0, 0, none⟩ : Addr).block < w.heap.size from hG)).trans hc
  clear hW hc hI'
  go_wp2_with (go_at_call 11; refine (Ybad.strconv_toError_syntax ⟨#[80, 97, 114, 115, 101, 85, 105, 110, 116]⟩ t 16 16 ev _ (by omega) ?_ hev).mono ?_)
  · exact hv1
  rintro e W2 ⟨N, rfl, h1, h2, h3⟩
  go_wp2
  go_ret2
  exact ⟨N, rfl, hb1.trans (h3.mono hb1.size)⟩

/-! ### '(*jsonText).unit' -/
/-- What unit hands back where the text has an escape's head: the number, or -1. -/
def hexI : Option Nat → Int
  | some v => v
  | none => -1

set_option maxHeartbeats 1000000 in
/-- Fewer than six bytes from i on. -/
theorem unit_short (b n cap i : Nat) (ao : Option Addr) (w : World) (hn : n ≤ 100000) (hi : i ≤ 100000) (hs : n < i + 6) (h0 : w.cell? ⟨b, 0, none⟩ = some (.slice ao n cap)) :
    Calls Ybad.prog 5 #[.pointer (some ⟨b, 0, none⟩), .int .i64 (i : Int)] w fun e w' => e = .returned (.int .i32 (-1)) ∧ w = w' := by
  have hl : (n : Int) - (i : Int) < 6 := by omega
  go_enter Ybad.func5, Ybad.ntmps5
  go_wp2
  go_ret
  exact ⟨rfl, rfl⟩

set_option maxHeartbeats 1000000 in
/-- Six bytes or more, but no escape's head. -/
theorem unit_no (b d o n cap i : Nat) (x y : Int) (w : World) (hn : n ≤ 100000) (hs : i + 6 ≤ n) (h0 : w.cell? ⟨b, 0, none⟩ = some (.slice (some ⟨d, o, none⟩) n cap))
    (h1 : w.cell? ⟨d, o + i, none⟩ = some (.int .u8 x)) (h2 : w.cell? ⟨d, o + (i + 1), none⟩ = some (.int .u8 y)) (hxy : ¬ (x = 92 ∧ y = 117)) :
    Calls Ybad.prog 5 #[.pointer (some ⟨b, 0, none⟩), .int .i64 (i : Int)] w fun e w' => e = .returned (.int .i32 (-1)) ∧ w = w' := by
  have hl : ¬ (n : Int) - (i : Int) < 6 := by omega
  have hl1 : (i : Int) < (n : Int) := by omega
  have hl2 : (i : Int) + 1 < (n : Int) := by omega
  by_cases hx : x = 92
  · have hy : (y != 117) = true := by simp; omega
    subst hx
    clear hxy
    go_enter Ybad.func5, Ybad.ntmps5
    go_wp2
    go_ret
    exact ⟨rfl, rfl⟩
  · have hy : (x != 92) = true := by simpa using hx
    clear hxy hx
    go_enter Ybad.func5, Ybad.ntmps5
    go_wp2
    go_ret
    exact ⟨rfl, rfl⟩

set_option maxHeartbeats 1000000 in
/-- An escape's head, and four bytes behind it. -/
theorem unit_hex (b d o n cap i : Nat) (xs : List Int) (ev : Value) (w : World) (hn : n ≤ 100000) (hnc : n ≤ cap) (hs : i + 6 ≤ n) (h0 : w.cell? ⟨b, 0, none⟩ = some (.slice (some ⟨d, o, none⟩) n cap))
    (h1 : w.cell? ⟨d, o + i, none⟩ = some (.int .u8 92)) (h2 : w.cell? ⟨d, o + (i + 1), none⟩ = some (.int .u8 117)) (hxs : xs.length = 4) (hr : ∀ x ∈ xs, 0 ≤ x ∧ x ≤ 255)
    (h3 : ∀ j, j < 4 → w.cell? ⟨d, o + (i + 2) + j, none⟩ = some (.int .u8 (xs.getD j 0)))
    (hc : w.cell? ⟨0, 0, none⟩ = some ev) (hev : ev = .nilIface ∨ ∃ te pe, ev = .iface te pe) :
    Calls Ybad.prog 5 #[.pointer (some ⟨b, 0, none⟩), .int .i64 (i : Int)] w fun e w' => e = .returned (.int .i32 (hexI (hexV 0 (xs.map Int.toNat)))) ∧ Below w.heap.size w w' := by
  have hl : ¬ (n : Int) - (i : Int) < 6 := by omega
  have hl1 : (i : Int) < (n : Int) := by omega
  have hl2 : (i : Int) + 1 < (n : Int) := by omega
  have hcv := fun c => run_convert_bytes_arg (P := Ybad.prog) w 22 5 Ybad.underlying22 Ybad.underlying5 d (o + (i + 2)) 4 c xs hxs h3 9 Ybad.underlying9
  have hsz : (strOfNums xs).size = 4 := by rw [strOfNums_size, hxs]
  have hda : (strOfNums xs).data.toList.map UInt8.toNat = xs.map Int.toNat := by
    rw [strOfNums_data, List.map_map]
    refine List.map_congr_left fun x hx => ?_
    have := hr x hx
    simp
    omega
  clear h3
  cases hv : hexV 0 (xs.map Int.toNat) with
  | some v =>
    have hvb : (v : Int) ≤ 65535 := by
      have := hexV_lt _ _ _ hv
      rw [List.length_map, hxs] at this
      omega
    rw [← hda] at hv
    have hP := pub_ok (strOfNums xs) hsz v hv w
    clear hv hda hsz hr hxs
    go_enter Ybad.func5, Ybad.ntmps5
    go_wp2_with (go_at_call 8; refine hP.mono ?_; rintro e W1 ⟨rfl, hb⟩)
    go_ret
    exact ⟨rfl, hb⟩
  | none =>
    rw [← hda] at hv
    have hP := pub_no (strOfNums xs) hsz hv ev w hc hev
    clear hv hda hsz hr hxs
    go_enter Ybad.func5, Ybad.ntmps5
    go_wp2_with (go_at_call 8; refine hP.mono ?_; rintro e W1 ⟨N, rfl, hb⟩)
    go_ret
    exact ⟨rfl, hb⟩

end Go.Proofs.YbulkbmaiDoor
