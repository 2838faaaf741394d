/- The law 'LawS3142BAppends': the walk. -/
import Derived.Test.YbulkbmawMk
import Derived.Deep.QuietTactic
import Derived.BigQuiet
import Derived.LaidEqlPtr
namespace Go.Proofs.Ybulkbmaw
open Go.RowKit
set_option linter.unusedVariables false
set_option linter.unusedSimpArgs false

/-- What the walks are told of a slice of int64 that came in. -/
def Src (w : World) (B : Nat) (ao : Option Addr) (n : Nat) (z : Nat → Int) : Prop :=
  0 < n → ∃ b off, ao = some ⟨b, off, none⟩ ∧ b < B ∧ ∀ j, j < n → w.cell? ⟨b, off + j, none⟩ = some (.int .i64 (z j))

theorem size29 : (Yba.prog.info? 29).map (·.size) = some 4 := by kernel_rfl
theorem ptr_eq (b : Nat) (w : World) : (binOp .eql 27 (.pointer (some ⟨b, 0, none⟩)) (.pointer (some ⟨b, 0, none⟩))).run Yba.prog w = .ok (.bool true) w := by
  obtain ⟨j, hj, _⟩ := Option.map_eq_some_iff.1 size29
  exact run_eql_ptr_same w ⟨b, 0, none⟩ Yba.underlying27 hj

set_option maxRecDepth 100000 in
set_option maxHeartbeats 1000000 in
theorem app_short (ao : Option Addr) (n c : Nat) (z : Nat → Int) (inf adl : Nat) (tr lg : Int) (w : World) (hn : n ≤ 1024) (hinf : inf ≤ 65535) (hadl : adl ≤ 65535) (s : Src w w.heap.size ao n z) :
    Calls Yba.prog 3 #[.slice ao n c, .int .u16 (inf : Int), .int .u16 (adl : Int), .int .i64 tr, .int .i64 lg] w fun e w' => e = .returned (.bool true) ∧ Below w.heap.size w w' := by
  obtain ⟨i0, hi0, hz0, hz1, hz2⟩ := info_parts info26
  have hl : ¬ (1024 : Int) < (n : Int) := by omega
  obtain ⟨m, em, hm⟩ : ∃ m : Nat, (inf : Int) % 1025 = (m : Int) ∧ m ≤ 1024 := ⟨inf % 1025, by omega, by omega⟩
  obtain ⟨d, ed, hd⟩ : ∃ d : Nat, (adl : Int) % 2049 = (d : Int) ∧ d ≤ 2048 := ⟨adl % 2049, by omega, by omega⟩
  have HE : Hid ((inf : Int) % 1025 = (m : Int) ∧ (adl : Int) % 2049 = (d : Int)) := ⟨em, ed⟩
  go_enter Yba.func3, Yba.ntmps3
  go_wp2_with (at_make; refine wpList_make_full _ rfl _ _ 24 rfl w.heap.size 26 i0 (.agg #[.int .i64 0, .int .i64 0, .int .i64 0]) 3 Yba.underlying24 hi0 hz0 hz1 _ _ _ _ n rfl rfl rfl rfl (by rw [hz2]; omega) (by unfold maxLen; omega) (Nat.le_refl _) ?_; intro w1 hown hgr)
  go_loopw [27] (fun i wr => ∃ k : Nat, k ≤ n ∧ i = .int .i64 k ∧ Below w.heap.size w wr ∧ ∃ xs, wr.ownsRow w.heap.size 26 3 (.slice (some ⟨w.heap.size, 0, none⟩) n n) n xs ∧ ∀ j, j < k → xs[j * 3]? = some (.int .i64 (j : Int)) ∧ xs[j * 3 + 1]? = some (.int .i64 (z j)) ∧ xs[j * 3 + 2]? = some (.int .i64 (j : Int)))
    (fun i _ => n - (intOf i).toNat)
  case atStart => exact ⟨0, Nat.zero_le _, rfl, (Below.refl _ _).grown hgr (Nat.le_refl _) (by simp), _, hown, by omega⟩
  case round =>
    obtain ⟨k, hk, rfl, hbel, xs, hox, hxs⟩ := hrel
    clear hown hgr
    have HX : Hid (∀ j, j < k → xs[j * 3]? = some (.int .i64 (j : Int)) ∧ xs[j * 3 + 1]? = some (.int .i64 (z j)) ∧ xs[j * 3 + 2]? = some (.int .i64 (j : Int))) := hxs
    clear hxs
    by_cases hlt : k < n
    · obtain ⟨b, off, rfl, hbw, hcell⟩ := s (by omega)
      have hce := (hbel.cell (p := ⟨b, off + k, none⟩) hbw).trans (hcell k hlt)
      have hxl := hox.1
      have hcx : ∀ q, q < n * 3 → wr.cell? ⟨w.heap.size, q, none⟩ = some (xs.getD q (.int .i64 0)) := fun q hq => by
        rw [hox.cellAt q hq]
        simp [List.getD, show q < xs.length by omega]
      have c0 := hcx (k * 3) (by omega)
      have c1 := hcx (k * 3 + 1) (by omega)
      have c2 := hcx (k * 3 + 2) (by omega)
      have f0 := hox.frozenAt (k * 3)
      have f1 := hox.frozenAt (k * 3 + 1)
      have f2 := hox.frozenAt (k * 3 + 2)
      generalize xs.getD (k * 3) (.int .i64 0) = u0 at c0
      generalize xs.getD (k * 3 + 1) (.int .i64 0) = u1 at c1
      generalize xs.getD (k * 3 + 2) (.int .i64 0) = u2 at c2
      clear hcx hcell s
      go_wp2
      go_roundw
      case rel =>
        obtain ⟨o0, _⟩ := hox.stored (k * 3) (.int .i64 (k : Int))
        obtain ⟨o1, _⟩ := o0.stored (k * 3 + 1) (.int .i64 (z k))
        obtain ⟨o2, _⟩ := o1.stored (k * 3 + 2) (.int .i64 (k : Int))
        refine ⟨k + 1, by omega, by go_num, ((hbel.setCell (Nat.le_refl _) _).setCell (Nat.le_refl _) _).setCell (Nat.le_refl _) _, _, o2, ?_⟩
        intro j hj
        by_cases e : j = k
        · subst e
          simp [List.getElem?_set, show j * 3 < xs.length by omega, show j * 3 + 1 < xs.length by omega, show j * 3 + 2 < xs.length by omega]
        · have := HX.out j (by omega)
          rw [List.getElem?_set_ne (by omega), List.getElem?_set_ne (by omega), List.getElem?_set_ne (by omega), List.getElem?_set_ne (by omega), List.getElem?_set_ne (by omega), List.getElem?_set_ne (by omega), List.getElem?_set_ne (by omega), List.getElem?_set_ne (by omega), List.getElem?_set_ne (by omega)]
          exact this
      case measure => simp [intOf]; omega
    · have hkn : k = n := by omega
      subst hkn
      go_wp2_with fail
      have hBs : w.heap.size < wr.heap.size := (hox.lt w.heap.size rfl).2
      refine (mk_any m d wr.heap.size tr lg _ (by omega) (by omega)).mono ?_
      rintro e w2 ⟨rfl, hsp, hsz, hb2⟩
      have hb2' : Below (wr.heap.size + 1) (wr.alloc (.cells #[.slice (some ⟨w.heap.size, 0, none⟩) k k, .int .i64 0, .int .i64 0, .int .i64 0] 29)) w2 := by simpa using hb2
      simp only [World.size_alloc] at hsp hsz
      have hL0 : w2.cell? ⟨wr.heap.size, 0, none⟩ = some (.slice (some ⟨w.heap.size, 0, none⟩) k k) := by rw [hb2'.cell (p := ⟨wr.heap.size, 0, none⟩) (by simp)]; simp
      have hL1 : ∀ j, j < 3 → w2.cell? ⟨wr.heap.size, j + 1, none⟩ = some (.int .i64 0) := fun j hj => by
        rw [hb2'.cell (p := ⟨wr.heap.size, j + 1, none⟩) (by simp)]
        rcases (show j = 0 ∨ j = 1 ∨ j = 2 by omega) with rfl | rfl | rfl <;> simp
      have hLf : w2.frozen? ⟨wr.heap.size, 0, none⟩ = false := by rw [hb2'.frozen (p := ⟨wr.heap.size, 0, none⟩) (by simp)]; go_simp
      have hg2 : (wr.alloc (.cells #[.slice (some ⟨w.heap.size, 0, none⟩) k k, .int .i64 0, .int .i64 0, .int .i64 0] 29)).grownBy w2 none := ⟨hb2'.os, hb2'.tape, hb2'.output, hb2'.size, fun q hq _ => hb2'.block q (by simpa using hq)⟩
      have hox2 := (hox.alloc (.cells #[.slice (some ⟨w.heap.size, 0, none⟩) k k, .int .i64 0, .int .i64 0, .int .i64 0] 29)).kept hg2 (.inr (by simp [Value.ownBlock]))
      have hbw2 : Below w.heap.size w w2 := (hbel.alloc (by omega) _).trans (hb2'.mono (by omega))
      have hE := ended_any (wr.heap.size + 1) wr.heap.size (wr.heap.size + 1 + 1 + 1) w.heap.size _ _ m m d d k tr lg _ xs w2 hsp hL0 hLf hox2 (by omega) (by omega) (by omega) (by omega) (by simp [Value.ownBlock]; omega) (by simp [Value.ownBlock]; omega) (by simp [Value.ownBlock]; omega) (by omega) (by omega) (by omega)
      clear hb2 hb2' hg2 hsp
      go_wp2_with fail
      refine hE.mono ?_
      rintro e w3 ⟨rfl, g, cap, sp3, r0, rf, own3, _, _, _, rj, hs3, rB⟩
      clear hE
      have hbw3 : Below w.heap.size w w3 := hbw2.trans (rB _ (by omega) (by omega) (by omega))
      have q1 := (rj 1 (by decide)).trans (hL1 0 (by decide))
      have q2 := (rj 2 (by decide)).trans (hL1 1 (by decide))
      have q3 := (rj 3 (by decide)).trans (hL1 2 (by decide))
      have p3 := sp3.order
      have p8 := sp3.tr
      have p17 := sp3.log
      have p18 := sp3.logged
      clear rj rB hL1 hL0 hLf hox2 hbw2 hox
      have hxl : xs.length = k * 3 := by
        have := own3.1
        simp at this
        omega
      have hrow : ∀ j, j < k → w3.cell? ⟨g, j * 3, none⟩ = some (.int .i64 (j : Int)) ∧ w3.cell? ⟨g, j * 3 + 1, none⟩ = some (.int .i64 (z j)) ∧ w3.cell? ⟨g, j * 3 + 2, none⟩ = some (.int .i64 (j : Int)) := fun j hj => by
        have := HX.out j hj
        rw [own3.cellAt (j * 3) (by omega), own3.cellAt (j * 3 + 1) (by omega), own3.cellAt (j * 3 + 2) (by omega), List.getElem?_append_left (by omega), List.getElem?_append_left (by omega), List.getElem?_append_left (by omega)]
        exact this
      have t0 : w3.cell? ⟨g, k * 3, none⟩ = some (.int .i64 (m : Int)) := by rw [own3.cellAt (k * 3) (by omega), List.getElem?_append_right (by omega)]; simp [hxl]
      have t1 : w3.cell? ⟨g, k * 3 + 1, none⟩ = some (.int .i64 (wrap64 (tr - lg))) := by rw [own3.cellAt (k * 3 + 1) (by omega), List.getElem?_append_right (by omega)]; simp [hxl, IntWalk.i64_left]
      have t2 : w3.cell? ⟨g, k * 3 + 2, none⟩ = some (.int .i64 ((d : Int) / 2)) := by rw [own3.cellAt (k * 3 + 2) (by omega), List.getElem?_append_right (by omega)]; simp [hxl]
      have HR : Hid (∀ j, j < k → w3.cell? ⟨g, j * 3, none⟩ = some (.int .i64 (j : Int)) ∧ w3.cell? ⟨g, j * 3 + 1, none⟩ = some (.int .i64 (z j)) ∧ w3.cell? ⟨g, j * 3 + 2, none⟩ = some (.int .i64 (j : Int))) := hrow
      clear hrow own3 HX hxl
      obtain ⟨x1, hx1⟩ : ∃ x1, x1 = wrap64 (tr - lg) := ⟨_, rfl⟩
      go_wp2_with fail
      go_loopw [18] (fun i w4 => ∃ r : Nat, r ≤ k ∧ i = .int .i64 r ∧ ∃ nq, w4 = w3.drewN nq) (fun i _ => k - (intOf i).toNat)
      case atStart => exact ⟨0, Nat.zero_le _, rfl, 0, rfl⟩
      case round =>
        obtain ⟨r, hr, rfl, nq, rfl⟩ := hrel
        by_cases hrk : r < k
        · obtain ⟨b, off, rfl, hbw, hcell⟩ := s (by omega)
          have hra := (hbw3.cell (p := ⟨b, off + r, none⟩) hbw).trans (hcell r hrk)
          obtain ⟨y0, y1, y2⟩ := HR.out r hrk
          have hr1 : (r : Int) < (k : Int) := by omega
          have hr2 : (r : Int) < (k : Int) + 1 := by omega
          clear hcell s HR
          go_wp2
          go_quiet (fail)
          go_wp2
          go_roundw
          case rel => exact ⟨r + 1, by omega, by go_num, _, rfl⟩
          case measure => simp [intOf]; omega
        · have hrk' : r = k := by omega
          subst hrk'
          have hpe := ptr_eq wr.heap.size
          go_wp2
          go_ret
          exact ⟨rfl, below_drewN hbw3 _⟩
end Go.Proofs.Ybulkbmaw
