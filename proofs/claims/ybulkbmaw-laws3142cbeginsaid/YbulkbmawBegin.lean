/- The law 'LawS3142CBegin': the walk. -/
import Derived.Test.YbulkbmawParts
import Derived.Deep.DeepCutAuto
namespace Go.Proofs.Ybulkbmaw
open Go.RowKit
set_option linter.unusedVariables false
set_option linter.unusedSimpArgs false

theorem inf59 : (Yba.prog.info? 59).map (fun i => (i.zero, i.size, i.bytes)) = some (some (.agg #[.int .u32 0, .int .u32 0, .int .i32 0, .int .u32 0, .int .u32 0, .int .i32 0, .int .u8 0]), 7, 28) := by kernel_rfl

/-- Clone, nil or not: nil-ness is kept, the elements are in new memory. -/
theorem clone_any (ao : Option Addr) (n c : Nat) (z : List Int) (w : World) (hn : n ≤ 100000) (s : Row32 w w.heap.size ao n c z) :
    Calls Yba.prog 9 #[.slice ao n c] w fun e w' => ∃ go cap, e = .returned (.slice go n cap) ∧ go.isNone = ao.isNone ∧ w'.ownsRow w.heap.size 21 1 (.slice go n cap) n (z.map (Value.int .i32)) ∧ Below w.heap.size w w' := by
  cases ao with
  | none =>
    obtain ⟨rfl, rfl⟩ := s.1 rfl
    have hz : z = [] := List.eq_nil_of_length_eq_zero s.2.1
    subst hz
    refine (clone_nil w).mono ?_
    rintro e w' ⟨rfl, rfl⟩
    exact ⟨none, 0, rfl, rfl, World.ownsRow_nil _ _ _ _, Below.refl _ _⟩
  | some ad =>
    refine (clone_some ad n c z w hn s).mono ?_
    rintro e w' ⟨g, cap, rfl, h1, h2⟩
    exact ⟨_, cap, rfl, rfl, h1, h2⟩

/-- A row of int32 that the call owns, as the walks want it. -/
theorem own_row32 {w : World} {base n cap : Nat} {go : Option Addr} {z : List Int} (hl : z.length = n) (h : w.ownsRow base 21 1 (.slice go n cap) n (z.map (Value.int .i32))) : Row32 w w.heap.size go n cap z := by
  rcases h.2 with ⟨e, rfl⟩ | ⟨g, cap', cur, e, hb, hg, _⟩
  · simp only [Value.slice.injEq, true_and] at e
    obtain ⟨rfl, rfl⟩ := e
    exact ⟨fun _ => ⟨rfl, rfl⟩, hl, fun h => absurd h (by omega)⟩
  · simp only [Value.slice.injEq, true_and] at e
    obtain ⟨rfl, rfl⟩ := e
    refine ⟨fun h => (by cases h), hl, fun hp => ⟨g, 0, rfl, (h.lt g rfl).2, fun j hj => ?_⟩⟩
    rw [Nat.zero_add, h.cellAt j (by omega), List.getElem?_map]
    simp [List.getD, show j < z.length by omega]

/-- What the walks are told of the nodes that came in. -/
def Nodes (w : World) (B : Nat) (ao : Option Addr) (n c : Nat) (Q : Nat → Nat → Int) : Prop :=
  (ao = none → n = 0 ∧ c = 0) ∧ (0 < n → ∃ b off, ao = some ⟨b, off, none⟩ ∧ b < B ∧ ∀ j, j < n →
    w.cell? ⟨b, off + j * 7, none⟩ = some (.int .u32 (Q j 0)) ∧ w.cell? ⟨b, off + j * 7 + 1, none⟩ = some (.int .u32 (Q j 1)) ∧ w.cell? ⟨b, off + j * 7 + 2, none⟩ = some (.int .i32 (Q j 2)) ∧
    w.cell? ⟨b, off + j * 7 + 3, none⟩ = some (.int .u32 (Q j 3)) ∧ w.cell? ⟨b, off + j * 7 + 4, none⟩ = some (.int .u32 (Q j 4)) ∧ w.cell? ⟨b, off + j * 7 + 5, none⟩ = some (.int .i32 (Q j 5)) ∧
    w.cell? ⟨b, off + j * 7 + 6, none⟩ = some (.int .u8 (Q j 6)))

/-- Node j in a row's cells, its last field aside. -/
def NodeAt (xs : List Value) (Q : Nat → Nat → Int) (j : Nat) : Prop :=
  xs[j * 7]? = some (.int .u32 (Q j 0)) ∧ xs[j * 7 + 1]? = some (.int .u32 (Q j 1)) ∧ xs[j * 7 + 2]? = some (.int .i32 (Q j 2)) ∧ xs[j * 7 + 3]? = some (.int .u32 (Q j 3)) ∧
  xs[j * 7 + 4]? = some (.int .u32 (Q j 4)) ∧ xs[j * 7 + 5]? = some (.int .i32 (Q j 5))

theorem node_new {xs : List Value} {Q : Nat → Nat → Int} {k : Nat} (hl : k * 7 + 7 ≤ xs.length) (u : Value) :
    NodeAt (((((((xs.set (k * 7) (.int .u32 (Q k 0))).set (k * 7 + 1) (.int .u32 (Q k 1))).set (k * 7 + 2) (.int .i32 (Q k 2))).set (k * 7 + 3) (.int .u32 (Q k 3))).set (k * 7 + 4) (.int .u32 (Q k 4))).set (k * 7 + 5) (.int .i32 (Q k 5))).set (k * 7 + 6) u) Q k := by
  unfold NodeAt
  simp [List.getElem?_set, show k * 7 < xs.length by omega, show k * 7 + 1 < xs.length by omega, show k * 7 + 2 < xs.length by omega, show k * 7 + 3 < xs.length by omega, show k * 7 + 4 < xs.length by omega, show k * 7 + 5 < xs.length by omega]
theorem node_old {xs : List Value} {Q : Nat → Nat → Int} {k j : Nat} (hj : j < k) (h : NodeAt xs Q j) (u0 u1 u2 u3 u4 u5 u6 : Value) :
    NodeAt (((((((xs.set (k * 7) u0).set (k * 7 + 1) u1).set (k * 7 + 2) u2).set (k * 7 + 3) u3).set (k * 7 + 4) u4).set (k * 7 + 5) u5).set (k * 7 + 6) u6) Q j := by
  have key : ∀ q, q < k * 7 → (((((((xs.set (k * 7) u0).set (k * 7 + 1) u1).set (k * 7 + 2) u2).set (k * 7 + 3) u3).set (k * 7 + 4) u4).set (k * 7 + 5) u5).set (k * 7 + 6) u6)[q]? = xs[q]? := fun q hq => by
    rw [List.getElem?_set_ne (by omega), List.getElem?_set_ne (by omega), List.getElem?_set_ne (by omega), List.getElem?_set_ne (by omega), List.getElem?_set_ne (by omega), List.getElem?_set_ne (by omega), List.getElem?_set_ne (by omega)]
  unfold NodeAt
  rw [key _ (by omega), key _ (by omega), key _ (by omega), key _ (by omega), key _ (by omega), key _ (by omega)]
  exact h

/-- What is owned hangs on its own block alone. -/
theorem own_of_block {w w' : World} {base e size n : Nat} {v : Value} {xs : List Value} (h : w.ownsRow base e size v n xs) (hb : ∀ g, v.ownBlock = some g → w'.heap[g]? = w.heap[g]?) : w'.ownsRow base e size v n xs := by
  obtain ⟨h1, h2⟩ := h
  refine ⟨h1, ?_⟩
  rcases h2 with h2 | ⟨g, cap, cur, rfl, q1, q2, r⟩
  · exact .inl h2
  · exact .inr ⟨g, cap, cur, rfl, q1, (hb g rfl).trans q2, r⟩
theorem own_later {w w' : World} {base e size n : Nat} {v : Value} {xs : List Value} (h : w.ownsRow base e size v n xs) (hb : Below w.heap.size w w') : w'.ownsRow base e size v n xs :=
  own_of_block h fun g hg => hb.block g (h.lt g hg).2

set_option maxRecDepth 100000 in
set_option maxHeartbeats 4000000 in
theorem begin_short (ao : Option Addr) (n c : Nat) (Q : Nat → Nat → Int) (ho : Option Addr) (hn hc : Nat) (hz : List Int) (ko : Option Addr) (kn kc : Nat) (kz : List Int) (a1 a2 a3 a4 : Int) (b5 b6 : Bool) (u9 u10 : Int) (w : World)
    (ln : n ≤ 4096) (lh : hn ≤ 4096) (lk : kn ≤ 4096) (s : Nodes w w.heap.size ao n c Q) (sh : Row32 w w.heap.size ho hn hc hz) (sk : Row32 w w.heap.size ko kn kc kz) :
    Calls Yba.prog 6 #[.slice ao n c, .int .i64 a1, .int .i64 a2, .int .i64 a3, .int .i64 a4, .bool b5, .bool b6, .slice ho hn hc, .slice ko kn kc, .int .u32 u9, .int .u32 u10] w fun e w' => e = .returned (.bool true) ∧ Below w.heap.size w w' := by
  obtain ⟨i0, hi0, hz0, hz1, hz2⟩ := info_parts inf59
  have g1 : ¬ (4096 : Int) < (n : Int) := by omega
  have g2 : ¬ (4096 : Int) < (hn : Int) := by omega
  have g3 : ¬ (4096 : Int) < (kn : Int) := by omega
  have hq := fun w => run_neq_slice_nil_any (P := Yba.prog) w 52 56 ao n c 0 0 Yba.underlying52
  go_enter Yba.func6, Yba.ntmps6
  go_upto_if 46 with fail
  go_cut [23] (fun v wc => ∃ nao ncap xs, v = .slice nao n ncap ∧ wc.ownsRow w.heap.size 59 7 (.slice nao n ncap) n xs ∧ Below w.heap.size w wc)
  case first =>
    cases ao with
    | none =>
      obtain ⟨rfl, rfl⟩ := s.1 rfl
      go_wp2
      go_meet
      case rel => exact ⟨none, 0, [], rfl, World.ownsRow_nil _ _ _ _, Below.refl _ _⟩
    | some ad =>
      go_wp2_with (at_make; refine wpList_make_full _ rfl _ _ 54 rfl w.heap.size 59 i0 _ 7 Yba.underlying54 hi0 hz0 hz1 _ _ _ _ n rfl rfl rfl rfl (by rw [hz2]; omega) (by unfold maxLen; omega) (Nat.le_refl _) ?_; intro w1 hown hgr)
      go_meet
      case rel => exact ⟨_, n, _, rfl, hown, (Below.refl _ _).grown hgr (Nat.le_refl _) (by simp)⟩
  case rest =>
    obtain ⟨nao, ncap, xs0, rfl, hown0, hbel0⟩ := hcut
    clear hq
    go_wp2_with fail
    go_loopw [24] (fun i wr => ∃ k : Nat, k ≤ n ∧ i = .int .i64 k ∧ Below w.heap.size w wr ∧ ∃ xs, wr.ownsRow w.heap.size 59 7 (.slice nao n ncap) n xs ∧ ∀ j, j < k → NodeAt xs Q j) (fun i _ => n - (intOf i).toNat)
    case atStart => exact ⟨0, Nat.zero_le _, rfl, hbel0, xs0, hown0, fun j hj => absurd hj (by omega)⟩
    case round =>
      clear hown0 hbel0
      obtain ⟨k, hk, rfl, hbel, xs, hox, hxs⟩ := hrel
      have HX : Hid (∀ j, j < k → NodeAt xs Q j) := hxs
      clear hxs
      by_cases hlt : k < n
      · obtain ⟨g, hg⟩ : ∃ g, nao = some ⟨g, 0, none⟩ := by
          rcases hox.2 with ⟨_, h0⟩ | ⟨g, cap', cur, h, _⟩
          · omega
          · simp only [Value.slice.injEq] at h
            exact ⟨g, h.1⟩
        subst hg
        have hgl := hox.lt g rfl
        obtain ⟨b, off, rfl, hbw, hcell⟩ := s.2 (by omega)
        obtain ⟨q0, q1, q2, q3, q4, q5, q6⟩ := hcell k hlt
        have e0 := (hbel.cell (p := ⟨b, off + k * 7, none⟩) hbw).trans q0
        have e1 := (hbel.cell (p := ⟨b, off + k * 7 + 1, none⟩) hbw).trans q1
        have e2 := (hbel.cell (p := ⟨b, off + k * 7 + 2, none⟩) hbw).trans q2
        have e3 := (hbel.cell (p := ⟨b, off + k * 7 + 3, none⟩) hbw).trans q3
        have e4 := (hbel.cell (p := ⟨b, off + k * 7 + 4, none⟩) hbw).trans q4
        have e5 := (hbel.cell (p := ⟨b, off + k * 7 + 5, none⟩) hbw).trans q5
        have e6 := (hbel.cell (p := ⟨b, off + k * 7 + 6, none⟩) hbw).trans q6
        have hxl := hox.1
        have hcx : ∀ q, q < n * 7 → ∃ u, wr.cell? ⟨g, q, none⟩ = some u := fun q hq => ⟨xs.getD q (.int .u8 0), by
          rw [hox.cellAt q hq]
          simp [List.getD, show q < xs.length by omega]⟩
        obtain ⟨v0, c0⟩ := hcx (k * 7) (by omega)
        obtain ⟨v1, c1⟩ := hcx (k * 7 + 1) (by omega)
        obtain ⟨v2, c2⟩ := hcx (k * 7 + 2) (by omega)
        obtain ⟨v3, c3⟩ := hcx (k * 7 + 3) (by omega)
        obtain ⟨v4, c4⟩ := hcx (k * 7 + 4) (by omega)
        obtain ⟨v5, c5⟩ := hcx (k * 7 + 5) (by omega)
        obtain ⟨v6, c6⟩ := hcx (k * 7 + 6) (by omega)
        have f0 := hox.frozenAt (k * 7)
        have f1 := hox.frozenAt (k * 7 + 1)
        have f2 := hox.frozenAt (k * 7 + 2)
        have f3 := hox.frozenAt (k * 7 + 3)
        have f4 := hox.frozenAt (k * 7 + 4)
        have f5 := hox.frozenAt (k * 7 + 5)
        have f6 := hox.frozenAt (k * 7 + 6)
        have hgs : g < wr.heap.size := hgl.2
        have hbs : b < wr.heap.size := by have := hbel.size; omega
        clear hcx hcell s q0 q1 q2 q3 q4 q5 q6 sh sk
        go_wp2
        go_roundw
        case rel =>
          have o0 := (hox.stored (k * 7) (.int .u32 (Q k 0))).1
          have o1 := (o0.stored (k * 7 + 1) (.int .u32 (Q k 1))).1
          have o2 := (o1.stored (k * 7 + 2) (.int .i32 (Q k 2))).1
          have o3 := (o2.stored (k * 7 + 3) (.int .u32 (Q k 3))).1
          have o4 := (o3.stored (k * 7 + 4) (.int .u32 (Q k 4))).1
          have o5 := (o4.stored (k * 7 + 5) (.int .i32 (Q k 5))).1
          have o6 := (o5.stored (k * 7 + 6) (.int .u8 (Q k 6))).1
          have hB := ((((((hbel.setCell (p := ⟨g, k * 7, none⟩) hgl.1 (.int .u32 (Q k 0))).setCell (p := ⟨g, k * 7 + 1, none⟩) hgl.1 (.int .u32 (Q k 1))).setCell (p := ⟨g, k * 7 + 2, none⟩) hgl.1 (.int .i32 (Q k 2))).setCell (p := ⟨g, k * 7 + 3, none⟩) hgl.1 (.int .u32 (Q k 3))).setCell (p := ⟨g, k * 7 + 4, none⟩) hgl.1 (.int .u32 (Q k 4))).setCell (p := ⟨g, k * 7 + 5, none⟩) hgl.1 (.int .i32 (Q k 5))).setCell (p := ⟨g, k * 7 + 6, none⟩) hgl.1 (.int .u8 (Q k 6))
          refine ⟨k + 1, by omega, by go_num, hB.alloc hB.size _, _, o6.alloc _, ?_⟩
          intro j hj
          by_cases e : j = k
          · subst e
            exact node_new (by omega) _
          · exact node_old (by omega) (HX.out j (by omega)) _ _ _ _ _ _ _
        case measure => simp [intOf]; omega
      · have hkn : k = n := by omega
        subst hkn
        have sh1 : Row32 wr wr.heap.size ho hn hc hz := sh.later (fun b off hb => hbel.cell (p := ⟨b, off, none⟩) hb) hbel.size
        go_wp2_with fail
        refine (clone_any ho hn hc hz _ (by omega) sh1).mono ?_
        rintro e w1 ⟨ho', hc', rfl, hno, own1, hb1⟩
        have bel1 : Below w.heap.size w w1 := hbel.trans (hb1.mono hbel.size)
        have sk1 : Row32 w1 w1.heap.size ko kn kc kz := sk.later (fun b off hb => bel1.cell (p := ⟨b, off, none⟩) hb) bel1.size
        go_wp2_with fail
        refine (clone_any ko kn kc kz _ (by omega) sk1).mono ?_
        rintro e w2 ⟨ko', kc', rfl, kno, own2, hb2⟩
        have bel2 : Below w.heap.size w w2 := bel1.trans (hb2.mono bel1.size)
        clear sh1 sk1
        go_wp2_with fail
        obtain ⟨A, hA⟩ : ∃ A, A = w2.heap.size := ⟨_, rfl⟩
        have hAd : Ad (w2.alloc (.cells #[.int .i64 a1, .float .f64 0, .float .f64 0, .int .i64 a2, .slice nao k ncap, .slice ho' hn hc', .int .i64 a3, .int .i64 a4, .slice ko' kn kc', .bool b5, .bool b6, .int .u32 u9, .int .u32 u10] 63)) A (.int .i64 a1) (.float .f64 0) (.float .f64 0) (.int .i64 a2) (.slice nao k ncap) (.slice ho' hn hc') (.int .i64 a3) (.int .i64 a4) (.slice ko' kn kc') (.bool b5) (.bool b6) (.int .u32 u9) (.int .u32 u10) := by
          unfold Ad
          rw [hA]
          exact heap_alloc_new w2 _
        have ownN := ((own_later (own_later hox hb1) hb2).alloc (.cells #[.int .i64 a1, .float .f64 0, .float .f64 0, .int .i64 a2, .slice nao k ncap, .slice ho' hn hc', .int .i64 a3, .int .i64 a4, .slice ko' kn kc', .bool b5, .bool b6, .int .u32 u9, .int .u32 u10] 63))
        have bel3 := bel2.alloc bel2.size (.cells #[.int .i64 a1, .float .f64 0, .float .f64 0, .int .i64 a2, .slice nao k ncap, .slice ho' hn hc', .int .i64 a3, .int .i64 a4, .slice ko' kn kc', .bool b5, .bool b6, .int .u32 u9, .int .u32 u10] 63)
        have own1' := (own_later own1 hb2).alloc (.cells #[.int .i64 a1, .float .f64 0, .float .f64 0, .int .i64 a2, .slice nao k ncap, .slice ho' hn hc', .int .i64 a3, .int .i64 a4, .slice ko' kn kc', .bool b5, .bool b6, .int .u32 u9, .int .u32 u10] 63)
        have own2' := own2.alloc (.cells #[.int .i64 a1, .float .f64 0, .float .f64 0, .int .i64 a2, .slice nao k ncap, .slice ho' hn hc', .int .i64 a3, .int .i64 a4, .slice ko' kn kc', .bool b5, .bool b6, .int .u32 u9, .int .u32 u10] 63)
        have hs3 : (w2.alloc (.cells #[.int .i64 a1, .float .f64 0, .float .f64 0, .int .i64 a2, .slice nao k ncap, .slice ho' hn hc', .int .i64 a3, .int .i64 a4, .slice ko' kn kc', .bool b5, .bool b6, .int .u32 u9, .int .u32 u10] 63)).heap.size = w2.heap.size + 1 := by simp
        rw [← hA]
        generalize w2.alloc (.cells #[.int .i64 a1, .float .f64 0, .float .f64 0, .int .i64 a2, .slice nao k ncap, .slice ho' hn hc', .int .i64 a3, .int .i64 a4, .slice ko' kn kc', .bool b5, .bool b6, .int .u32 u9, .int .u32 u10] 63) = W3 at *
        have nb : ∀ r, (Value.slice nao k ncap).ownBlock = some r → w.heap.size ≤ r ∧ r < wr.heap.size := fun r hr => hox.lt r hr
        have n1 : ∀ r, (Value.slice ho' hn hc').ownBlock = some r → wr.heap.size ≤ r ∧ r < w1.heap.size := fun r hr => own1.lt r hr
        have n2 : ∀ r, (Value.slice ko' kn kc').ownBlock = some r → w1.heap.size ≤ r ∧ r < w2.heap.size := fun r hr => own2.lt r hr
        have z1 := hb1.size
        have z2 := hb2.size
        have z0 := hbel.size
        have hNA : (Value.slice nao k ncap).ownBlock ≠ some A := fun e => by have := nb A e; omega
        refine (begin_any A k ncap w.heap.size nao _ _ _ _ _ _ _ _ _ _ _ _ xs W3 (by omega) hAd ownN hNA).mono ?_
        rintro e w4 ⟨rfl, ys, ownY, hAd4, hy6, hy0, hon⟩
        have own1'' := own_of_block own1' (fun r hr => hon.block r (by have := n1 r hr; omega) (fun e => by have := nb r e; have := n1 r hr; omega))
        have own2'' := own_of_block own2' (fun r hr => hon.block r (by have := n2 r hr; omega) (fun e => by have := nb r e; have := n2 r hr; omega))
        have bel4 : Below w.heap.size w w4 := bel3.trans (hon.below (by omega) (fun r hr => (nb r hr).1))
        have z4 : w4.heap.size = W3.heap.size := hon.size
        have sH : Row32 w4 w4.heap.size ho' hn hc' hz := own_row32 sh.2.1 own1''
        have sK : Row32 w4 w4.heap.size ko' kn kc' kz := own_row32 sk.2.1 own2''
        have sH0 : Row32 w4 w4.heap.size ho hn hc hz := sh.later (fun b off hb => bel4.cell (p := ⟨b, off, none⟩) hb) bel4.size
        have sK0 : Row32 w4 w4.heap.size ko kn kc kz := sk.later (fun b off hb => bel4.cell (p := ⟨b, off, none⟩) hb) bel4.size
        have d0 : w4.cell? ⟨A, 0, none⟩ = some (.int .i64 a1) := cell_of_row w4 A 0 _ 63 (0, 0) hAd4
        have d3 : w4.cell? ⟨A, 3, none⟩ = some (.int .i64 a2) := cell_of_row w4 A 3 _ 63 (0, 0) hAd4
        have d4 : w4.cell? ⟨A, 4, none⟩ = some (.slice nao k ncap) := cell_of_row w4 A 4 _ 63 (0, 0) hAd4
        have d5 : w4.cell? ⟨A, 5, none⟩ = some (.slice ho' hn hc') := cell_of_row w4 A 5 _ 63 (0, 0) hAd4
        have d6 : w4.cell? ⟨A, 6, none⟩ = some (.int .i64 1) := cell_of_row w4 A 6 _ 63 (0, 0) hAd4
        have d7 : w4.cell? ⟨A, 7, none⟩ = some (.int .i64 0) := cell_of_row w4 A 7 _ 63 (0, 0) hAd4
        have d8 : w4.cell? ⟨A, 8, none⟩ = some (.slice ko' kn kc') := cell_of_row w4 A 8 _ 63 (0, 0) hAd4
        have d9 : w4.cell? ⟨A, 9, none⟩ = some (.bool false) := cell_of_row w4 A 9 _ 63 (0, 0) hAd4
        have d10 : w4.cell? ⟨A, 10, none⟩ = some (.bool b6) := cell_of_row w4 A 10 _ 63 (0, 0) hAd4
        have d11 : w4.cell? ⟨A, 11, none⟩ = some (.int .u32 u9) := cell_of_row w4 A 11 _ 63 (0, 0) hAd4
        have d12 : w4.cell? ⟨A, 12, none⟩ = some (.int .u32 u10) := cell_of_row w4 A 12 _ 63 (0, 0) hAd4
        have lA : A < w4.heap.size := World.block_lt_of_cell? _ _ d0
        have hcol : ∀ j, j < k → NodeAt ys Q j ∧ ys[j * 7 + 6]? = some (.int .u8 0) := fun j hj => ⟨by
          obtain ⟨p0, p1, p2, p3, p4, p5⟩ := HX.out j hj
          exact ⟨(hy6 _ (by omega)).trans p0, (hy6 _ (by omega)).trans p1, (hy6 _ (by omega)).trans p2, (hy6 _ (by omega)).trans p3, (hy6 _ (by omega)).trans p4, (hy6 _ (by omega)).trans p5⟩, hy0 j hj⟩
        have HC : Hid (∀ j, j < k → NodeAt ys Q j ∧ ys[j * 7 + 6]? = some (.int .u8 0)) := hcol
        have HS : Hid (Row32 w4 w4.heap.size ho' hn hc' hz ∧ Row32 w4 w4.heap.size ko' kn kc' kz ∧ Row32 w4 w4.heap.size ho hn hc hz ∧ Row32 w4 w4.heap.size ko kn kc kz) := ⟨sH, sK, sH0, sK0⟩
        clear hcol hy6 hy0 HX hAd4 own1'' own2'' own1' own2' own1 own2 sH sK sH0 sK0 ownN hAd hon hs3 nb n1 n2 hb1 hb2 bel1 bel2 bel3 hox hbel hA z4 z0 z1 z2
        go_wp2_with fail
        go_loopw [29] (fun i w5 => ∃ r : Nat, r ≤ k ∧ i = .int .i64 r ∧ Below w4.heap.size w4 w5) (fun i _ => k - (intOf i).toNat)
        case atStart => exact ⟨0, Nat.zero_le _, rfl, Below.refl _ _⟩
        case round =>
          obtain ⟨r, hr, rfl, bel5⟩ := hrel
          by_cases hrk : r < k
          · obtain ⟨g, hg⟩ : ∃ g, nao = some ⟨g, 0, none⟩ := by
              rcases ownY.2 with ⟨_, h0⟩ | ⟨g, cap', cur, h, _⟩
              · omega
              · simp only [Value.slice.injEq] at h
                exact ⟨g, h.1⟩
            subst hg
            have hgl := ownY.lt g rfl
            have hyl := ownY.1
            obtain ⟨b, off, rfl, hbw, hcell⟩ := s.2 (by omega)
            obtain ⟨q0, q1, q2, q3, q4, q5, q6⟩ := hcell r hrk
            have lb4 := bel4.size
            have up : ∀ o, wr.cell? ⟨b, o, none⟩ = w.cell? ⟨b, o, none⟩ := fun o => (bel5.cell (p := ⟨b, o, none⟩) (by show b < _; omega)).trans (bel4.cell (p := ⟨b, o, none⟩) hbw)
            have e0 := (up _).trans q0
            have e1 := (up _).trans q1
            have e2 := (up _).trans q2
            have e3 := (up _).trans q3
            have e4 := (up _).trans q4
            have e5 := (up _).trans q5
            have e6 := (up _).trans q6
            have upg : ∀ o, o < k * 7 → wr.cell? ⟨g, o, none⟩ = ys[o]? := fun o ho => (bel5.cell (p := ⟨g, o, none⟩) hgl.2).trans (ownY.cellAt o ho)
            obtain ⟨⟨p0, p1, p2, p3, p4, p5⟩, p6⟩ := HC.out r hrk
            have y0 := (upg _ (by omega)).trans p0
            have y1 := (upg _ (by omega)).trans p1
            have y2 := (upg _ (by omega)).trans p2
            have y3 := (upg _ (by omega)).trans p3
            have y4 := (upg _ (by omega)).trans p4
            have y5 := (upg _ (by omega)).trans p5
            have y6 := (upg _ (by omega)).trans p6
            have x4 := (bel5.cell (p := ⟨A, 4, none⟩) lA).trans d4
            have hr1 : (r : Int) < (k : Int) := by omega
            have l5 := bel5.size
            have hbs : b < wr.heap.size := by omega
            have hgs : g < wr.heap.size := by omega
            have hAs : A < wr.heap.size := by omega
            clear up upg hcell s q0 q1 q2 q3 q4 q5 q6 p0 p1 p2 p3 p4 p5 p6 HC HS sh sk d0 d3 d4 d5 d6 d7 d8 d9 d10 d11 d12 ownY
            go_wp2
            go_roundw
            case rel => exact ⟨r + 1, by omega, by go_num, (bel5.alloc (by omega) _).alloc (by simp; omega) _⟩
            case measure => simp [intOf]; omega
          · obtain ⟨sH, sK, sH0, sK0⟩ := HS.out
            have up : ∀ b off, b < w4.heap.size → wr.cell? ⟨b, off, none⟩ = w4.cell? ⟨b, off, none⟩ := fun b off hb => bel5.cell (p := ⟨b, off, none⟩) hb
            have tH := sH.later up (Nat.le_refl _)
            have tK := sK.later up (Nat.le_refl _)
            have tH0 := sH0.later up (Nat.le_refl _)
            have tK0 := sK0.later up (Nat.le_refl _)
            have x5 := (up A 5 lA).trans d5
            have x8 := (up A 8 lA).trans d8
            obtain ⟨bh, hbh⟩ : ∃ b, b = ho.isNone := ⟨_, rfl⟩
            obtain ⟨bk, hbk⟩ : ∃ b, b = ko.isNone := ⟨_, rfl⟩
            have n1 : ∀ w, (binOp .eql 34 (.slice ho' hn hc') (.slice none 0 0)).run Yba.prog w = .ok (.bool bh) w := fun w => by rw [Lib.run_eql_slice_nil w 34 21 ho' hn hc' 0 0 Yba.underlying34, hno, hbh]
            have n2 : ∀ w, (binOp .eql 34 (.slice ho hn hc) (.slice none 0 0)).run Yba.prog w = .ok (.bool bh) w := fun w => by rw [Lib.run_eql_slice_nil w 34 21 ho hn hc 0 0 Yba.underlying34, hbh]
            have n3 : ∀ w, (binOp .eql 34 (.slice ko' kn kc') (.slice none 0 0)).run Yba.prog w = .ok (.bool bk) w := fun w => by rw [Lib.run_eql_slice_nil w 34 21 ko' kn kc' 0 0 Yba.underlying34, kno, hbk]
            have n4 : ∀ w, (binOp .eql 34 (.slice ko kn kc) (.slice none 0 0)).run Yba.prog w = .ok (.bool bk) w := fun w => by rw [Lib.run_eql_slice_nil w 34 21 ko kn kc 0 0 Yba.underlying34, hbk]
            have hfin : Below w.heap.size w wr := bel4.trans (bel5.mono bel4.size)
            have hE1 := equal_any ho' ho hn hc' hc w4.heap.size hz wr (by omega) tH tH0
            have hE2 := fun nq => equal_any ko' ko kn kc' kc w4.heap.size kz (wr.drewN nq) (by omega) tK tK0
            clear hbh hbk hno kno up tH tK tH0 tK0 sH sK sH0 sK0 HS HC s sh sk d0 d3 d4 d5 d6 d7 d8 d9 d10 d11 d12 ownY bel4 bel5
            go_wp2_with fail
            refine hE1.mono ?_
            rintro e w6 ⟨rfl, nq, rfl⟩
            clear hE1
            go_wp2_with fail
            refine (hE2 nq).mono ?_
            rintro e w7 ⟨rfl, nq2, rfl⟩
            clear hE2
            go_wp2
            go_ret
            exact ⟨rfl, below_drewN hfin _⟩
end Go.Proofs.Ybulkbmaw
