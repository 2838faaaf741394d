/- The law 'LawS3142CBegin': the row (eleven arguments, a slice of structs among them). -/
import Derived.Test.YbulkbmawRows
import Derived.WalkKit
import Derived.ProofKit
import Derived.OpenShut
import Derived.ShutString
import Derived.ChangeOld
import Derived.Below
import Derived.Deep.Slices
import Derived.Test.YbulkbmawBegin
namespace Go.Proofs.Ybulkbmaw.lawS3142CBegin
open Go.ChangeShapes Go.WideShapes Go.ChangeAt Go.RowKit
set_option linter.unusedVariables false

theorem own : ownKnob Yba.prog.godebug = none := by kernel_rfl
theorem laidOut : laidOutB Yba.prog = true := by kernel_rfl
theorem cells56 : Yba.prog.cellsOf 56 = 7 := by kernel_rfl
theorem cells53 : Yba.prog.cellsOf 53 = 1 := by kernel_rfl
theorem cells21 : Yba.prog.cellsOf 21 = 1 := by kernel_rfl
theorem cells5 : Yba.prog.cellsOf 5 = 1 := by kernel_rfl

/-- One node: seven cells, each an integer of its kind. -/
theorem open_node {H : Type} {enc : TypeId × Value → H} {W : World} {fuel : Nat} {cs : List Value} {x : DataW H × List MemPlace} (h : DataW.trod enc Yba.prog W 0 (fun _ => true) true fuel 56 cs = some x) :
    ∃ f : Nat → Int, cs = [.int .u32 (f 0), .int .u32 (f 1), .int .i32 (f 2), .int .u32 (f 3), .int .u32 (f 4), .int .i32 (f 5), .int .u8 (f 6)] := by
  obtain ⟨xs, n, _, _, hl, hxl, hf⟩ := DataW.trod_struct Yba.underlying56 h
  rw [cells56] at hl
  match cs, hl with
  | [e0, e1, e2, e3, e4, e5, e6], _ =>
    match xs, hxl with
    | [y0, y1, y2, y3, y4, y5, y6], _ =>
      have t0 : DataW.trod enc Yba.prog W 0 (fun _ => true) true n 53 (([e0, e1, e2, e3, e4, e5, e6].drop 0).take (Yba.prog.cellsOf 53)) = some y0 := hf 0 _ rfl
      have t1 : DataW.trod enc Yba.prog W 0 (fun _ => true) true n 53 (([e0, e1, e2, e3, e4, e5, e6].drop 1).take (Yba.prog.cellsOf 53)) = some y1 := hf 1 _ rfl
      have t2 : DataW.trod enc Yba.prog W 0 (fun _ => true) true n 21 (([e0, e1, e2, e3, e4, e5, e6].drop 2).take (Yba.prog.cellsOf 21)) = some y2 := hf 2 _ rfl
      have t3 : DataW.trod enc Yba.prog W 0 (fun _ => true) true n 53 (([e0, e1, e2, e3, e4, e5, e6].drop 3).take (Yba.prog.cellsOf 53)) = some y3 := hf 3 _ rfl
      have t4 : DataW.trod enc Yba.prog W 0 (fun _ => true) true n 53 (([e0, e1, e2, e3, e4, e5, e6].drop 4).take (Yba.prog.cellsOf 53)) = some y4 := hf 4 _ rfl
      have t5 : DataW.trod enc Yba.prog W 0 (fun _ => true) true n 21 (([e0, e1, e2, e3, e4, e5, e6].drop 5).take (Yba.prog.cellsOf 21)) = some y5 := hf 5 _ rfl
      have t6 : DataW.trod enc Yba.prog W 0 (fun _ => true) true n 5 (([e0, e1, e2, e3, e4, e5, e6].drop 6).take (Yba.prog.cellsOf 5)) = some y6 := hf 6 _ rfl
      rw [cells53] at t0
      rw [cells53] at t1
      rw [cells21] at t2
      rw [cells53] at t3
      rw [cells53] at t4
      rw [cells21] at t5
      rw [cells5] at t6
      obtain ⟨q0, c0, _⟩ := DataW.trod_int Yba.underlying53 t0
      obtain ⟨q1, c1, _⟩ := DataW.trod_int Yba.underlying53 t1
      obtain ⟨q2, c2, _⟩ := DataW.trod_int Yba.underlying21 t2
      obtain ⟨q3, c3, _⟩ := DataW.trod_int Yba.underlying53 t3
      obtain ⟨q4, c4, _⟩ := DataW.trod_int Yba.underlying53 t4
      obtain ⟨q5, c5, _⟩ := DataW.trod_int Yba.underlying21 t5
      obtain ⟨q6, c6, _⟩ := DataW.trod_int Yba.underlying5 t6
      have c0' : e0 = .int .u32 q0 := by simpa using c0
      have c1' : e1 = .int .u32 q1 := by simpa using c1
      have c2' : e2 = .int .i32 q2 := by simpa using c2
      have c3' : e3 = .int .u32 q3 := by simpa using c3
      have c4' : e4 = .int .u32 q4 := by simpa using c4
      have c5' : e5 = .int .i32 q5 := by simpa using c5
      have c6' : e6 = .int .u8 q6 := by simpa using c6
      subst c0' c1' c2' c3' c4' c5' c6'
      exact ⟨fun | 0 => q0 | 1 => q1 | 2 => q2 | 3 => q3 | 4 => q4 | 5 => q5 | _ => q6, rfl⟩

theorem open_nodes {H : Type} {enc : TypeId × Value → H} {W : World} {a : Option Addr} {len cap : Nat} {d : DataW H} {p : List MemPlace} (h : DataW.Trod enc Yba.prog W 0 (fun _ => true) true 52 (.slice a len cap) d p) :
    ∃ Q, Nodes W W.heap.size a len cap Q ∧ len ≤ maxLen := by
  obtain ⟨fuel, hf⟩ := h
  rcases Go.Deep.open_slice Yba.underlying52 hf with ⟨hcs, _⟩ | ⟨x, l, c, m, nn, D, Pl, hcs, _, hl, hm, hmm, _, hel⟩
  · simp [Value.cells] at hcs
    obtain ⟨rfl, rfl, rfl⟩ := hcs
    exact ⟨fun _ _ => 0, ⟨fun _ => ⟨rfl, rfl⟩, fun h => absurd h (by omega)⟩, Nat.zero_le _⟩
  · simp [Value.cells] at hcs
    obtain ⟨rfl, rfl, rfl⟩ := hcs
    have hmc : m = cap := by simpa using hmm
    subst hmc
    rw [cells56] at hel
    have hone : ∀ j, j < len → ∃ f : Nat → Int, ∀ i, i < 7 → W.cell? (x.add (j * 7 + i)) = [Value.int .u32 (f 0), .int .u32 (f 1), .int .i32 (f 2), .int .u32 (f 3), .int .u32 (f 4), .int .i32 (f 5), .int .u8 (f 6)][i]? := fun j hj => by
      obtain ⟨cs', h1, h2⟩ := hel j (by omega)
      obtain ⟨f, rfl⟩ := open_node h2
      obtain ⟨_, _, h3⟩ := World.cells?_some h1
      exact ⟨f, fun i hi => by rw [← Go.Deep.add_add]; exact h3 i hi⟩
    obtain ⟨Q, hQ⟩ := Go.Deep.choose_lt hone
    refine ⟨Q, ⟨fun h => (by cases h), fun hp => ?_⟩, by omega⟩
    obtain ⟨b, off, spot⟩ := x
    have h00 := hQ 0 hp 0 (by decide)
    have hspot : spot = none := by simpa [Addr.add] using World.cell?_spot h00
    subst hspot
    have hB : b < W.heap.size := by simpa [Addr.add] using World.block_lt_of_cell? _ _ h00
    refine ⟨b, off, rfl, hB, fun j hj => ?_⟩
    have k : ∀ i, i < 7 → W.cell? ⟨b, off + j * 7 + i, none⟩ = [Value.int .u32 (Q j 0), .int .u32 (Q j 1), .int .i32 (Q j 2), .int .u32 (Q j 3), .int .u32 (Q j 4), .int .i32 (Q j 5), .int .u8 (Q j 6)][i]? := fun i hi => by
      rw [← hQ j hj i hi, add_plain, Nat.add_assoc]
    exact ⟨k 0 (by decide), k 1 (by decide), k 2 (by decide), k 3 (by decide), k 4 (by decide), k 5 (by decide), k 6 (by decide)⟩

theorem open_row32 {H : Type} {enc : TypeId × Value → H} {W : World} {a : Option Addr} {len cap : Nat} {d : DataW H} {p : List MemPlace} (h : DataW.Trod enc Yba.prog W 0 (fun _ => true) true 34 (.slice a len cap) d p) :
    ∃ z, Row32 W W.heap.size a len cap z ∧ len ≤ maxLen := by
  obtain ⟨fuel, hf⟩ := h
  rcases open_ints Yba.underlying34 Yba.underlying21 (by kernel_rfl) hf with ⟨hcs, _⟩ | ⟨x, l, c, zs, hcs, _, hl, hm, hz, _, hcell, hwz⟩
  · simp [Value.cells] at hcs
    obtain ⟨rfl, rfl, rfl⟩ := hcs
    exact ⟨[], ⟨fun _ => ⟨rfl, rfl⟩, rfl, fun h => absurd h (by omega)⟩, Nat.zero_le _⟩
  · simp [Value.cells] at hcs
    obtain ⟨rfl, rfl, rfl⟩ := hcs
    have hz' : zs.length = cap := by simpa using hz
    refine ⟨zs.take len, ⟨fun h => (by cases h), by rw [List.length_take]; omega, fun hp => ?_⟩, by omega⟩
    obtain ⟨b, off, rfl, hc⟩ := ints_at hcell (by omega)
    refine ⟨b, off, rfl, by simpa using World.block_lt_of_cell? _ _ (hc 0 (by omega)), fun j hj => ?_⟩
    rw [hc j (by omega)]
    simp [List.getD, hj]

set_option maxRecDepth 100000 in
theorem walk_long (ao : Option Addr) (n c : Nat) (ho : Option Addr) (hn hc : Nat) (ko : Option Addr) (kn kc : Nat) (a1 a2 a3 a4 : Int) (b5 b6 : Bool) (u9 u10 : Int) (w : World)
    (m1 : n ≤ maxLen) (m2 : hn ≤ maxLen) (m3 : kn ≤ maxLen) (h : 4096 < n ∨ 4096 < hn ∨ 4096 < kn) :
    Calls Yba.prog 6 #[.slice ao n c, .int .i64 a1, .int .i64 a2, .int .i64 a3, .int .i64 a4, .bool b5, .bool b6, .slice ho hn hc, .slice ko kn kc, .int .u32 u9, .int .u32 u10] w fun e w' => e = .returned (.bool true) ∧ Below w.heap.size w w' := by
  unfold maxLen at m1 m2 m3
  by_cases h1 : 4096 < n
  · have g1 : (4096 : Int) < (n : Int) := by omega
    clear h
    go_enter Yba.func6, Yba.ntmps6
    go_wp2
    go_ret
    exact ⟨rfl, Below.refl _ _⟩
  · have g1 : ¬ (4096 : Int) < (n : Int) := by omega
    by_cases h2 : 4096 < hn
    · have g2 : (4096 : Int) < (hn : Int) := by omega
      clear h
      go_enter Yba.func6, Yba.ntmps6
      go_wp2
      go_ret
      exact ⟨rfl, Below.refl _ _⟩
    · have g2 : ¬ (4096 : Int) < (hn : Int) := by omega
      have g3 : (4096 : Int) < (kn : Int) := by omega
      clear h
      go_enter Yba.func6, Yba.ntmps6
      go_wp2
      go_ret
      exact ⟨rfl, Below.refl _ _⟩

set_option maxRecDepth 100000 in
theorem lifted (os : Os) (started : os.Started) (H : Type) (enc : TypeId × Value → H) :
    ReturnsInHanded {} Yba.checked os 6 .any (Rows.lawS3142CBeginSpec.pre6 enc Yba.prog Yba.f6 Rows.lawS3142CBeginRow.domain false) (Rows.lawS3142CBeginSpec.post enc Yba.prog Yba.f6 false true false false) := by
  refine returnsInHanded_of_change (C := Yba.checked) own started (by kernel_rfl) Yba.func6
    (ChangeSpec.witness6 (enc := enc) (C := Yba.checked) false ⟨#[], #[.slice none 0 0, .int .i64 0, .int .i64 0, .int .i64 0, .int .i64 0, .bool false, .bool false, .slice none 0 0, .slice none 0 0, .int .u32 0, .int .u32 0], []⟩ 8 (by kernel_rfl) (by kernel_rfl) (by kernel_rfl) (by kernel_rfl)) ?_
  intro W base args ds gs before hval0 hW hcnd _
  have hval : ∀ (j : Nat) t v, Yba.f6.params[j]? = some t → args[j]? = some v → Value.okWide Yba.prog W .any base t v := hval0
  have hW' := hW
  obtain ⟨p, q, hA0, hV, rfl, hfz, hnd⟩ := hW
  have hA : DataW.TrodAll enc Yba.prog W 0 (fun _ => true) true Yba.f6.params.toList args.toList ds p := hA0
  rw [Yba.params6] at hA hval
  obtain ⟨v0, vs0, d0, ds0, p0, q0, hargs, rfl, rfl, h0, r0⟩ := trodAll_cons hA
  obtain ⟨v1, vs1, d1, ds1, p1, q1, rfl, rfl, rfl, h1, r1⟩ := trodAll_cons r0
  obtain ⟨v2, vs2, d2, ds2, p2, q2, rfl, rfl, rfl, h2, r2⟩ := trodAll_cons r1
  obtain ⟨v3, vs3, d3, ds3, p3, q3, rfl, rfl, rfl, h3, r3⟩ := trodAll_cons r2
  obtain ⟨v4, vs4, d4, ds4, p4, q4, rfl, rfl, rfl, h4, r4⟩ := trodAll_cons r3
  obtain ⟨v5, vs5, d5, ds5, p5, q5, rfl, rfl, rfl, h5, r5⟩ := trodAll_cons r4
  obtain ⟨v6, vs6, d6, ds6, p6, q6, rfl, rfl, rfl, h6, r6⟩ := trodAll_cons r5
  obtain ⟨v7, vs7, d7, ds7, p7, q7, rfl, rfl, rfl, h7, r7⟩ := trodAll_cons r6
  obtain ⟨v8, vs8, d8, ds8, p8, q8, rfl, rfl, rfl, h8, r8⟩ := trodAll_cons r7
  obtain ⟨v9, vs9, d9, ds9, p9, q9, rfl, rfl, rfl, h9, r9⟩ := trodAll_cons r8
  obtain ⟨v10, vs10, d10, ds10, p10, q10, rfl, rfl, rfl, h10, r10⟩ := trodAll_cons r9
  obtain ⟨rfl, rfl, rfl⟩ := trodAll_nil r10
  obtain rfl : args = #[v0, v1, v2, v3, v4, v5, v6, v7, v8, v9, v10] := by cases args; simp_all
  obtain ⟨rfl, rfl⟩ := trodVars_none hV
  obtain ⟨ao, n, c, rfl⟩ := okWide_slice Yba.underlying52 (hval 0 52 v0 rfl rfl)
  obtain ⟨ho, hn, hc, rfl⟩ := okWide_slice Yba.underlying34 (hval 7 34 v7 rfl rfl)
  obtain ⟨ko, kn, kc, rfl⟩ := okWide_slice Yba.underlying34 (hval 8 34 v8 rfl rfl)
  have k0 := h0
  have k7 := h7
  have k8 := h8
  have lt0 : ∀ x ∈ p0, x.block < W.heap.size := by obtain ⟨m, hm⟩ := k0; exact DataW.trod_lt m _ _ _ hm
  have lt7 : ∀ x ∈ p7, x.block < W.heap.size := by obtain ⟨m, hm⟩ := k7; exact DataW.trod_lt m _ _ _ hm
  have lt8 : ∀ x ∈ p8, x.block < W.heap.size := by obtain ⟨m, hm⟩ := k8; exact DataW.trod_lt m _ _ _ hm
  obtain ⟨Q, s0, m0⟩ := open_nodes h0
  obtain ⟨hz, s7, m7⟩ := open_row32 h7
  obtain ⟨kz, s8, m8⟩ := open_row32 h8
  obtain ⟨a1, rfl, rfl, rfl, w1⟩ := open_int Yba.underlying3 (hval 1 3 v1 rfl rfl) h1
  obtain ⟨a2, rfl, rfl, rfl, w2⟩ := open_int Yba.underlying3 (hval 2 3 v2 rfl rfl) h2
  obtain ⟨a3, rfl, rfl, rfl, w3⟩ := open_int Yba.underlying3 (hval 3 3 v3 rfl rfl) h3
  obtain ⟨a4, rfl, rfl, rfl, w4⟩ := open_int Yba.underlying3 (hval 4 3 v4 rfl rfl) h4
  obtain ⟨b5, rfl, rfl, rfl⟩ := open_bool Yba.underlying4 (hval 5 4 v5 rfl rfl) h5
  obtain ⟨b6, rfl, rfl, rfl⟩ := open_bool Yba.underlying4 (hval 6 4 v6 rfl rfl) h6
  obtain ⟨u9, rfl, rfl, rfl, w9⟩ := open_int Yba.underlying53 (hval 9 53 v9 rfl rfl) h9
  obtain ⟨u10, rfl, rfl, rfl, w10⟩ := open_int Yba.underlying53 (hval 10 53 v10 rfl rfl) h10
  have fin : Calls Yba.prog 6 #[.slice ao n c, .int .i64 a1, .int .i64 a2, .int .i64 a3, .int .i64 a4, .bool b5, .bool b6, .slice ho hn hc, .slice ko kn kc, .int .u32 u9, .int .u32 u10] W fun e w' => e = .returned (.bool true) ∧ Below W.heap.size W w' := by
    by_cases hl : 4096 < n ∨ 4096 < hn ∨ 4096 < kn
    · exact walk_long ao n c ho hn hc ko kn kc a1 a2 a3 a4 b5 b6 u9 u10 W m0 m7 m8 hl
    · exact begin_short ao n c Q ho hn hc hz ko kn kc kz a1 a2 a3 a4 b5 b6 u9 u10 W (by omega) (by omega) (by omega) s0 s7 s8
  clear hA0 hval0
  refine fin.mono fun e W' ⟨he, bel⟩ => ?_
  subst he
  exact ⟨_, rfl, _, _, _, [], _, [], hW', trodAll_mk1 (shut_bool Yba.underlying4 _),
    (trodAll_cons_mk (Below.trod laidOut (by kernel_rfl) (of_decide_eq_true (by kernel_rfl)) k0 bel lt0) (trodAll_cons_mk (shut_int Yba.underlying3 w1) (trodAll_cons_mk (shut_int Yba.underlying3 w2) (trodAll_cons_mk (shut_int Yba.underlying3 w3) (trodAll_cons_mk (shut_int Yba.underlying3 w4)
      (trodAll_cons_mk (shut_bool Yba.underlying4 _) (trodAll_cons_mk (shut_bool Yba.underlying4 _) (trodAll_cons_mk (Below.trod laidOut (by kernel_rfl) (of_decide_eq_true (by kernel_rfl)) k7 bel lt7) (trodAll_cons_mk (Below.trod laidOut (by kernel_rfl) (of_decide_eq_true (by kernel_rfl)) k8 bel lt8)
      (trodAll_cons_mk (shut_int Yba.underlying53 w9) (trodAll_cons_mk (shut_int Yba.underlying53 w10) trodAll_mk0))))))))))), rfl, bel.frame _, fun h => by cases h⟩

theorem over : Rows.lawS3142CBeginRow.holds Yba.pinned (OpenSpec.ofChange Rows.lawS3142CBeginSpec) :=
  OpenClaim.holds_of_wide 6 Yba.f6 rfl rfl rfl rfl rfl rfl rfl ⟨rfl, rfl, rfl, rfl, rfl⟩ rfl rfl rfl rfl rfl (by kernel_rfl) Yba.func6 (by kernel_rfl)
    (of_decide_eq_true (by kernel_rfl)) (by unfold Func.isWrapper; first | (rw [if_pos (by decide +kernel)]; kernel_rfl) | (rw [if_neg (by decide +kernel)]; exact ⟨rfl, rfl⟩))
    (fun os started H enc _ => lifted os started H enc)
end Go.Proofs.Ybulkbmaw.lawS3142CBegin
namespace Go.Proofs.Ybulkbmaw
/-- THE STATEMENT, by a short name. -/
theorem lawS3142CBegin_proved : Rows.LawS3142CBeginSaid := lawS3142CBegin.over
#print axioms lawS3142CBegin_proved
end Go.Proofs.Ybulkbmaw
