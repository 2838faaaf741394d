/- The law 'LawS3142BDeltas': the walk. -/
import Derived.Test.YbulkbmawMk
import Derived.Deep.QuietTactic
import Derived.BigQuiet
import Derived.BigRegion
namespace Go.Proofs.Ybulkbmaw
open Go.RowKit
set_option linter.unusedVariables false
set_option linter.unusedSimpArgs false

/-- What the walks are told of a slice of int64 that came in. -/
def SrcD (w : World) (B : Nat) (ao : Option Addr) (n : Nat) (z : Nat → Int) : Prop :=
  0 < n → ∃ b off, ao = some ⟨b, off, none⟩ ∧ b < B ∧ ∀ j, j < n → w.cell? ⟨b, off + j, none⟩ = some (.int .i64 (z j))

/-- The plain law: what is counted is the step. -/
theorem delta (T s : Int) (h0 : -9223372036854775808 ≤ s) (h1 : s ≤ 9223372036854775807) : IntKind.i64.wrap (wrap64 (T + s) - T) = s := by
  rw [IntWalk.i64_left]
  unfold wrap64
  omega

theorem Sp.setTr {w : World} {S L G : Nat} {oa ga : Option Addr} {on oc an gc : Nat} {T lg : Int} (h : Sp w S L G oa ga on oc an gc T lg) (hSG : S ≠ G) (T' : Int) : Sp (w.setCell ⟨S, 8, none⟩ (.int .i64 T')) S L G oa ga on oc an gc T' lg := by
  have o1 : ∀ j, j ≠ 8 → (w.setCell ⟨S, 8, none⟩ (.int .i64 T')).cell? ⟨S, j, none⟩ = w.cell? ⟨S, j, none⟩ := fun j hj => World.cell?_setCell_other _ _ _ _ (by intro e; cases e; exact hj rfl)
  refine ⟨?_, ?_, ?_, ?_, ?_, ?_, ?_, ?_⟩
  · rw [o1 0 (by decide)]; exact h.g
  · rw [o1 3 (by decide)]; exact h.order
  · exact World.cell?_setCell_same _ _ _ h.tr
  · rw [o1 17 (by decide)]; exact h.log
  · rw [o1 18 (by decide)]; exact h.logged
  · exact (World.frozen?_setCell _ _ _ _).trans h.ftr
  · exact (World.frozen?_setCell _ _ _ _).trans h.flogged
  · exact (World.cell?_setCell_other _ _ _ _ (by intro e; cases e)).trans h.adj

theorem Sp.ofDrew {w : World} {S L G : Nat} {oa ga : Option Addr} {on oc an gc : Nat} {T lg : Int} (h : Sp w S L G oa ga on oc an gc T lg) : Sp w.drew S L G oa ga on oc an gc T lg :=
  ⟨h.g, h.order, h.tr, h.log, h.logged, h.ftr, h.flogged, h.adj⟩

/-- The rows that have been recorded: the first, then one for each of k steps. -/
def Recs (m d : Nat) (st : Int) (z : Nat → Int) (k : Nat) (xs : List Value) : Prop :=
  xs[0]? = some (.int .i64 (m : Int)) ∧ xs[1]? = some (.int .i64 (wrap64 st)) ∧ xs[2]? = some (.int .i64 ((d : Int) / 2)) ∧
  ∀ j, j < k → xs[(j + 1) * 3]? = some (.int .i64 (m : Int)) ∧ xs[(j + 1) * 3 + 1]? = some (.int .i64 (z j)) ∧ xs[(j + 1) * 3 + 2]? = some (.int .i64 ((d : Int) / 2))

theorem Recs.start (m d : Nat) (st : Int) (z : Nat → Int) : Recs m d st z 0 ([] ++ [.int .i64 (m : Int), .int .i64 (IntKind.i64.wrap st), .int .i64 ((d : Int) / 2)]) :=
  ⟨rfl, by simp [IntWalk.i64_left], rfl, fun j hj => absurd hj (by omega)⟩

theorem Recs.next {m d : Nat} {st : Int} {z : Nat → Int} {k : Nat} {xs : List Value} (h : Recs m d st z k xs) (hl : xs.length = (k + 1) * 3) :
    Recs m d st z (k + 1) (xs ++ [.int .i64 (m : Int), .int .i64 (z k), .int .i64 ((d : Int) / 2)]) := by
  obtain ⟨h0, h1, h2, h3⟩ := h
  refine ⟨?_, ?_, ?_, fun j hj => ?_⟩
  · rw [List.getElem?_append_left (by omega)]; exact h0
  · rw [List.getElem?_append_left (by omega)]; exact h1
  · rw [List.getElem?_append_left (by omega)]; exact h2
  · by_cases e : j = k
    · subst e
      rw [List.getElem?_append_right (by omega), List.getElem?_append_right (by omega), List.getElem?_append_right (by omega), hl]
      refine ⟨by simp, ?_, ?_⟩
      · rw [show (j + 1) * 3 + 1 - (j + 1) * 3 = 1 by omega]; rfl
      · rw [show (j + 1) * 3 + 2 - (j + 1) * 3 = 2 by omega]; rfl
    · rw [List.getElem?_append_left (by omega), List.getElem?_append_left (by omega), List.getElem?_append_left (by omega)]
      exact h3 j (by omega)

set_option maxRecDepth 100000 in
set_option maxHeartbeats 2000000 in
theorem delta_short (ao : Option Addr) (n c : Nat) (z : Nat → Int) (start lg : Int) (m d : Nat) (w : World) (hn : n ≤ 1024) (hm : m ≤ 255) (hd : d ≤ 255) (s : SrcD w w.heap.size ao n z)
    (hz : ∀ j, -9223372036854775808 ≤ z j ∧ z j ≤ 9223372036854775807) :
    Calls Yba.prog 5 #[.slice ao n c, .int .i64 start, .int .i64 lg, .int .u8 (m : Int), .int .u8 (d : Int)] w fun e w' => e = .returned (.bool true) ∧ Below w.heap.size w w' := by
  have hl : ¬ (1024 : Int) < (n : Int) := by omega
  have HZ : Hid (∀ j, -9223372036854775808 ≤ z j ∧ z j ≤ 9223372036854775807) := hz
  clear hz
  go_enter Yba.func5, Yba.ntmps5
  go_wp2_with fail
  refine (mk_any m d w.heap.size start lg _ (by omega) (by omega)).mono ?_
  rintro e w2 ⟨rfl, hsp, hsz, hb2⟩
  have hb2' : Below (w.heap.size + 1) (w.alloc (.cells #[.slice none 0 0, .int .i64 0, .int .i64 0, .int .i64 0] 29)) w2 := by simpa using hb2
  simp only [World.size_alloc] at hsp hsz
  have hL0 : w2.cell? ⟨w.heap.size, 0, none⟩ = some (.slice none 0 0) := by rw [hb2'.cell (p := ⟨w.heap.size, 0, none⟩) (by simp)]; simp
  have hLf : w2.frozen? ⟨w.heap.size, 0, none⟩ = false := by rw [hb2'.frozen (p := ⟨w.heap.size, 0, none⟩) (by simp)]; go_simp
  have hbw2 : Below w.heap.size w w2 := ((Below.refl _ _).alloc (Nat.le_refl _) _).trans (hb2'.mono (by omega))
  have hE := ended_any (w.heap.size + 1) w.heap.size (w.heap.size + 1 + 1 + 1) w.heap.size _ _ m m d d 0 start lg (.slice none 0 0) [] w2 hsp hL0 hLf (World.ownsRow_nil _ _ _ _) (by omega) (by omega) (by omega) (by omega) (by simp [Value.ownBlock]) (by simp [Value.ownBlock]) (by simp [Value.ownBlock]) (by omega) (by omega) (by omega)
  clear hb2 hb2' hsp
  go_wp2_with fail
  refine hE.mono ?_
  rintro e w3 ⟨rfl, g, cap, sp3, r0, rf, own3, g1, g2, g3, _, hs3, rB⟩
  clear hE
  have hbw3 : Below w.heap.size w w3 := hbw2.trans (rB _ (by omega) (by omega) (by omega))
  have hrec := Recs.start m d (start - lg) z
  generalize [] ++ [Value.int .i64 (m : Int), .int .i64 (IntKind.i64.wrap (start - lg)), .int .i64 ((d : Int) / 2)] = xs at own3 hrec
  have hs3' : w.heap.size + 5 ≤ w3.heap.size := by omega
  clear rB hL0 hLf hbw2 hs3 hsz
  go_wp2_with fail
  go_loopw [15] (fun i wr => ∃ k : Nat, k ≤ n ∧ i = .int .i64 k ∧ ∃ g cap T xs, Sp wr (w.heap.size + 1) w.heap.size (w.heap.size + 1 + 1 + 1) (some ⟨w.heap.size + 1 + 1 + 1 + 1, 0, none⟩) (some ⟨w.heap.size + 1 + 1, 0, none⟩) m m d d T T ∧
      wr.cell? ⟨w.heap.size, 0, none⟩ = some (.slice (some ⟨g, 0, none⟩) (k + 1) cap) ∧ wr.frozen? ⟨w.heap.size, 0, none⟩ = false ∧ wr.ownsRow w.heap.size 26 3 (.slice (some ⟨g, 0, none⟩) (k + 1) cap) (k + 1) xs ∧
      g ≠ w.heap.size + 1 ∧ g ≠ w.heap.size ∧ g ≠ w.heap.size + 1 + 1 + 1 ∧ Below w.heap.size w wr ∧ w.heap.size + 5 ≤ wr.heap.size ∧ Recs m d (start - lg) z k xs) (fun i _ => n - (intOf i).toNat)
  case atStart => exact ⟨0, Nat.zero_le _, rfl, g, cap, start, xs, sp3, r0, rf, own3, g1, g2, g3, hbw3, hs3', hrec⟩
  case round =>
    clear sp3 r0 rf own3 g1 g2 g3 hbw3 hs3' hrec
    obtain ⟨k, hk, rfl, g, cap, T, xs, sp, r0, rf, own, g1, g2, g3, bel, hs, hrec⟩ := hrel
    have HR : Hid (Recs m d (start - lg) z k xs) := hrec
    clear hrec
    by_cases hlt : k < n
    · obtain ⟨b, off, rfl, hbw, hcell⟩ := s (by omega)
      have hce := (bel.cell (p := ⟨b, off + k, none⟩) hbw).trans (hcell k hlt)
      have c8 := sp.tr
      have f8 := sp.ftr
      have hk1 : (k : Int) < (n : Int) := by omega
      have hbS : b ≠ w.heap.size + 1 := by omega
      clear hcell s
      go_wp2
      go_region
      go_wp2_with fail
      have hT := (delta T (z k) (HZ.out k).1 (HZ.out k).2)
      have own' := (ownsRow_setCell_other own (a := ⟨w.heap.size + 1, 8, none⟩) (by simpa [Value.ownBlock] using g1) (.int .i64 (wrap64 (T + z k)))).drew
      have r0' : (wr.setCell ⟨w.heap.size + 1, 8, none⟩ (.int .i64 (wrap64 (T + z k)))).drew.cell? ⟨w.heap.size, 0, none⟩ = some (.slice (some ⟨g, 0, none⟩) (k + 1) cap) := (World.cell?_setCell_other wr _ _ _ (by intro e; injection e with e1; omega)).trans r0
      have rf' : (wr.setCell ⟨w.heap.size + 1, 8, none⟩ (.int .i64 (wrap64 (T + z k)))).drew.frozen? ⟨w.heap.size, 0, none⟩ = false := (World.frozen?_setCell wr _ _ _).trans rf
      have bel' : Below w.heap.size w (wr.setCell ⟨w.heap.size + 1, 8, none⟩ (.int .i64 (wrap64 (T + z k)))).drew := (bel.setCell (by simp) _).drew
      have hs' : w.heap.size + 5 ≤ (wr.setCell ⟨w.heap.size + 1, 8, none⟩ (.int .i64 (wrap64 (T + z k)))).drew.heap.size := by simpa using hs
      have hE := ended_any (w.heap.size + 1) w.heap.size (w.heap.size + 1 + 1 + 1) w.heap.size _ _ m m d d (k + 1) (wrap64 (T + z k)) T _ xs _ (sp.setTr (by omega) (wrap64 (T + z k))).ofDrew r0' rf' own' (by omega) (by omega) (by omega) (by omega) (by simpa [Value.ownBlock] using g1) (by simpa [Value.ownBlock] using g2) (by simpa [Value.ownBlock] using g3) (by omega) (by omega) (by omega)
      rw [hT] at hE
      have hxl := own.1
      refine hE.mono ?_
      rintro e w4 ⟨rfl, g', cap', sp', q0, qf, own4, q1, q2, q3, _, hs4, rB⟩
      have hbw4 : Below w.heap.size w w4 := bel'.trans (rB _ (by omega) (by omega) (by omega))
      clear hE rB own' r0' rf' bel' hT sp r0 rf own g1 g2 g3 bel c8 f8 hce
      go_wp2
      go_roundw
      case rel => exact ⟨k + 1, by omega, by go_num, g', cap', _, _, sp', q0, qf, own4, q1, q2, q3, hbw4, by omega, HR.out.next hxl⟩
      case measure => simp [intOf]; omega
    · have hkn : k = n := by omega
      subst hkn
      obtain ⟨h0, h1, h2, h3⟩ := HR.out
      have hxl := own.1
      have t0 : wr.cell? ⟨g, 0, none⟩ = some (.int .i64 (m : Int)) := (own.cellAt 0 (by omega)).trans h0
      have t1 : wr.cell? ⟨g, 1, none⟩ = some (.int .i64 (wrap64 (start - lg))) := (own.cellAt 1 (by omega)).trans h1
      have t2 : wr.cell? ⟨g, 2, none⟩ = some (.int .i64 ((d : Int) / 2)) := (own.cellAt 2 (by omega)).trans h2
      have HC : Hid (∀ j, j < k → wr.cell? ⟨g, (j + 1) * 3, none⟩ = some (.int .i64 (m : Int)) ∧ wr.cell? ⟨g, (j + 1) * 3 + 1, none⟩ = some (.int .i64 (z j)) ∧ wr.cell? ⟨g, (j + 1) * 3 + 2, none⟩ = some (.int .i64 ((d : Int) / 2))) := fun j hj => by
        have := h3 j hj
        rw [own.cellAt ((j + 1) * 3) (by omega), own.cellAt ((j + 1) * 3 + 1) (by omega), own.cellAt ((j + 1) * 3 + 2) (by omega)]
        exact this
      have p8 := sp.tr
      have p18 := sp.logged
      clear h0 h1 h2 h3 HR own hxl sp HZ
      go_wp2_with fail
      go_loopw [16] (fun i w4 => ∃ r : Nat, r ≤ k ∧ i = .int .i64 r ∧ ∃ nq, w4 = wr.drewN nq) (fun i _ => k - (intOf i).toNat)
      case atStart => exact ⟨0, Nat.zero_le _, rfl, 0, rfl⟩
      case round =>
        obtain ⟨r, hr, rfl, nq, rfl⟩ := hrel
        by_cases hrk : r < k
        · obtain ⟨b, off, rfl, hbw, hcell⟩ := s (by omega)
          have hra := (bel.cell (p := ⟨b, off + r, none⟩) hbw).trans (hcell r hrk)
          obtain ⟨y0, y1, y2⟩ := HC.out r hrk
          have hr1 : (r : Int) < (k : Int) := by omega
          have hr2 : (r : Int) + 1 < (k : Int) + 1 := by omega
          clear hcell s HC
          go_wp2
          go_quiet (fail)
          go_wp2
          go_roundw
          case rel => exact ⟨r + 1, by omega, by go_num, _, rfl⟩
          case measure => simp [intOf]; omega
        · have hrk' : r = k := by omega
          subst hrk'
          go_wp2
          go_quiet (fail)
          go_wp2
          go_ret
          exact ⟨rfl, below_drewN (below_drewN bel _) _⟩
end Go.Proofs.Ybulkbmaw
