/- 'zzs3142bmk', '(*Graph).Edges', '(*spreader).ended': their contracts. -/
import Derived.Test.YbulkbmawProg
import Derived.WalkKit
import Derived.WalkSmall
import Derived.Test.YbulkbmawOrders
import Derived.Deep.AppendLies
namespace Go.Proofs.Ybulkbmaw
open Go.RowKit
set_option linter.unusedVariables false
set_option linter.unusedSimpArgs false

theorem info21 : (Yba.prog.info? 21).map (fun i => (i.zero, i.size, i.bytes)) = some (some (.int .i32 0), 1, 4) := by kernel_rfl
theorem info26 : (Yba.prog.info? 26).map (fun i => (i.zero, i.size, i.bytes)) = some (some (.agg #[.int .i64 0, .int .i64 0, .int .i64 0]), 3, 24) := by kernel_rfl

theorem make34 (n : Nat) (h : n ≤ 100000) (w : World) : (Instr.makeSlice 34 (.int .i64 (n : Int)) (.int .i64 (n : Int))).run Yba.prog w = .ok (.slice (some ⟨w.heap.size, 0, none⟩) n n) (w.alloc (.cells (madeCells #[.int .i32 0] n) 21)) := by
  obtain ⟨i0, hi, hz0, hz1, hz2⟩ := info_parts info21
  have := run_make (P := Yba.prog) w 34 21 i0 (.int .i32 0) Yba.underlying34 hi hz0 .i64 .i64 (n : Int) (n : Int) (by omega) (by omega) (by rw [hz2]; omega) (by omega)
  rw [hz1] at this
  simp only [Int.toNat_natCast, Nat.mul_one] at this
  exact this

theorem edges_any (G : Nat) (ga : Option Addr) (an gc : Nat) (w : World) (ha : an ≤ 100000) (h : w.cell? ⟨G, 2, none⟩ = some (.slice ga an gc)) :
    Calls Yba.prog 12 #[.pointer (some ⟨G, 0, none⟩)] w fun e w' => e = .returned (.int .i64 ((an : Int) / 2)) ∧ w = w' := by
  go_enter Yba.func12, Yba.ntmps12
  go_wp2
  go_ret
  exact ⟨rfl, rfl⟩

/-- A spreader in block S with the log L and the graph G: what the walks read of it. -/
structure Sp (w : World) (S L G : Nat) (oa ga : Option Addr) (on oc an gc : Nat) (T lg : Int) : Prop where
  g : w.cell? ⟨S, 0, none⟩ = some (.pointer (some ⟨G, 0, none⟩))
  order : w.cell? ⟨S, 3, none⟩ = some (.slice oa on oc)
  tr : w.cell? ⟨S, 8, none⟩ = some (.int .i64 T)
  log : w.cell? ⟨S, 17, none⟩ = some (.pointer (some ⟨L, 0, none⟩))
  logged : w.cell? ⟨S, 18, none⟩ = some (.int .i64 lg)
  ftr : w.frozen? ⟨S, 8, none⟩ = false
  flogged : w.frozen? ⟨S, 18, none⟩ = false
  adj : w.cell? ⟨G, 2, none⟩ = some (.slice ga an gc)

set_option maxHeartbeats 1000000 in
theorem mk_any (n e L : Nat) (tr lg : Int) (w : World) (hn : n ≤ 100000) (he : e ≤ 100000) :
    Calls Yba.prog 7 #[.int .i64 (n : Int), .int .i64 (e : Int), .int .i64 tr, .int .i64 lg, .pointer (some ⟨L, 0, none⟩)] w fun x w' => x = .returned (.pointer (some ⟨w.heap.size, 0, none⟩)) ∧
      Sp w' w.heap.size L (w.heap.size + 1 + 1) (some ⟨w.heap.size + 1 + 1 + 1, 0, none⟩) (some ⟨w.heap.size + 1, 0, none⟩) n n e e tr lg ∧ w'.heap.size = w.heap.size + 4 ∧ Below w.heap.size w w' := by
  have m1 := make34 n hn
  have m2 := make34 e he
  go_enter Yba.func7, Yba.ntmps7
  go_wp2
  go_ret
  refine ⟨rfl, ⟨by go_simp, by go_simp, by go_simp, by go_simp, by go_simp, by go_simp, by go_simp, by go_simp⟩, by simp, ?_⟩
  exact (((((Below.refl _ _).alloc (Nat.le_refl _) _).alloc (by simp) _).alloc (by simp; omega) _).alloc (by simp; omega) _)

/-- What holds of the world while 'ended' reads: till its store into the log. -/
def Held (S L G : Nat) (oa ga : Option Addr) (on oc an gc : Nat) (T lg : Int) (v : Value) (w : World) : Prop :=
  Sp w S L G oa ga on oc an gc T lg ∧ w.cell? ⟨L, 0, none⟩ = some v ∧ w.frozen? ⟨L, 0, none⟩ = false

theorem Sp.of_blocks {w w' : World} {S L G : Nat} {oa ga : Option Addr} {on oc an gc : Nat} {T lg : Int} (h : Sp w S L G oa ga on oc an gc T lg) (eS : w'.heap[S]? = w.heap[S]?) (eG : w'.heap[G]? = w.heap[G]?) : Sp w' S L G oa ga on oc an gc T lg :=
  ⟨(World.cell?_of_block (w := w) eS).trans h.g, (World.cell?_of_block (w := w) eS).trans h.order, (World.cell?_of_block (w := w) eS).trans h.tr, (World.cell?_of_block (w := w) eS).trans h.log, (World.cell?_of_block (w := w) eS).trans h.logged,
    (World.frozen?_of_block (w := w) eS).trans h.ftr, (World.frozen?_of_block (w := w) eS).trans h.flogged, (World.cell?_of_block (w := w) eG).trans h.adj⟩
theorem Held.of_blocks {w w' : World} {S L G : Nat} {oa ga : Option Addr} {on oc an gc : Nat} {T lg : Int} {v : Value} (h : Held S L G oa ga on oc an gc T lg v w) (eS : w'.heap[S]? = w.heap[S]?) (eG : w'.heap[G]? = w.heap[G]?) (eL : w'.heap[L]? = w.heap[L]?) : Held S L G oa ga on oc an gc T lg v w' :=
  ⟨h.1.of_blocks eS eG, (World.cell?_of_block (w := w) eL).trans h.2.1, (World.frozen?_of_block (w := w) eL).trans h.2.2⟩

set_option maxRecDepth 100000 in
set_option maxHeartbeats 3200000 in
theorem ended_any (S L G base : Nat) (oa ga : Option Addr) (on oc an gc n : Nat) (T lg : Int) (v : Value) (xs : List Value) (w : World) (sp : Sp w S L G oa ga on oc an gc T lg)
    (hv : w.cell? ⟨L, 0, none⟩ = some v) (hvf : w.frozen? ⟨L, 0, none⟩ = false) (hown : w.ownsRow base 26 3 v n xs) (hn : n ≤ 100000) (hon : on ≤ 100000) (han : an ≤ 100000) (hb : base ≤ w.heap.size)
    (nS : v.ownBlock ≠ some S) (nL : v.ownBlock ≠ some L) (nG : v.ownBlock ≠ some G) (hSL : S ≠ L) (hSG : S ≠ G) (hLG : L ≠ G) :
    Calls Yba.prog 8 #[.pointer (some ⟨S, 0, none⟩)] w fun e w' => e = .returned (.tuple #[]) ∧ ∃ g cap, Sp w' S L G oa ga on oc an gc T T ∧ w'.cell? ⟨L, 0, none⟩ = some (.slice (some ⟨g, 0, none⟩) (n + 1) cap) ∧ w'.frozen? ⟨L, 0, none⟩ = false ∧
      w'.ownsRow base 26 3 (.slice (some ⟨g, 0, none⟩) (n + 1) cap) (n + 1) (xs ++ [.int .i64 (on : Int), .int .i64 (IntKind.i64.wrap (T - lg)), .int .i64 ((an : Int) / 2)]) ∧ g ≠ S ∧ g ≠ L ∧ g ≠ G ∧
      (∀ j, j ≠ 0 → w'.cell? ⟨L, j, none⟩ = w.cell? ⟨L, j, none⟩) ∧ w.heap.size ≤ w'.heap.size ∧ ∀ B, B ≤ S → B ≤ L → B ≤ base → Below B w w' := by
  obtain ⟨i0, hi0, hz0, hz1, hz2⟩ := info_parts info26
  have hS : Held S L G oa ga on oc an gc T lg v w.drew := ⟨⟨sp.g, sp.order, sp.tr, sp.log, sp.logged, sp.ftr, sp.flogged, sp.adj⟩, hv, hvf⟩
  have h17 := sp.log
  go_enter Yba.func8, Yba.ntmps8
  go_wp2_with fail
  refine wp_region_till (Held S L G oa ga on oc an gc T lg v) 39 (by kernel_rfl) ?_
  show wpTill _ _ _ _ _ _ 40 (Array.replicate 40 false) _ _
  refine wpTill.take 0 7 (.pointer (some ⟨S, 0, none⟩)) rfl rfl (by kernel_rfl) (by kernel_rfl) (by kernel_rfl) (by kernel_rfl) (fun _ _ _ h => h) hS rfl (fun w hw => by obtain ⟨⟨c0, c3, c8, c17, c18, _, _, cG⟩, cL, _⟩ := hw; go_simp) ?_
  simp only [Act.put, List.setIfInBounds_toArray, List.set_cons_zero, List.set_cons_succ]
  refine wpTill.take 1 8 (.pointer (some ⟨S, 0, none⟩)) rfl rfl (by kernel_rfl) (by kernel_rfl) (by kernel_rfl) (by kernel_rfl) (fun _ _ _ h => h) hS rfl (fun w hw => by obtain ⟨⟨c0, c3, c8, c17, c18, _, _, cG⟩, cL, _⟩ := hw; go_simp) ?_
  simp only [Act.put, List.setIfInBounds_toArray, List.set_cons_zero, List.set_cons_succ]
  refine wpTill.take 2 9 (.pointer (some ⟨S, 17, none⟩)) rfl rfl (by kernel_rfl) (by kernel_rfl) (by kernel_rfl) (by kernel_rfl) (fun _ _ _ h => h) hS rfl (fun w hw => by obtain ⟨⟨c0, c3, c8, c17, c18, _, _, cG⟩, cL, _⟩ := hw; go_simp) ?_
  simp only [Act.put, List.setIfInBounds_toArray, List.set_cons_zero, List.set_cons_succ]
  refine wpTill.take 3 10 (.pointer (some ⟨L, 0, none⟩)) rfl rfl (by kernel_rfl) (by kernel_rfl) (by kernel_rfl) (by kernel_rfl) (fun _ _ _ h => h) hS rfl (fun w hw => by obtain ⟨⟨c0, c3, c8, c17, c18, _, _, cG⟩, cL, _⟩ := hw; go_simp) ?_
  simp only [Act.put, List.setIfInBounds_toArray, List.set_cons_zero, List.set_cons_succ]
  refine wpTill.take 4 11 (.pointer (some ⟨S, 0, none⟩)) rfl rfl (by kernel_rfl) (by kernel_rfl) (by kernel_rfl) (by kernel_rfl) (fun _ _ _ h => h) hS rfl (fun w hw => by obtain ⟨⟨c0, c3, c8, c17, c18, _, _, cG⟩, cL, _⟩ := hw; go_simp) ?_
  simp only [Act.put, List.setIfInBounds_toArray, List.set_cons_zero, List.set_cons_succ]
  refine wpTill.take 5 12 (.pointer (some ⟨S, 0, none⟩)) rfl rfl (by kernel_rfl) (by kernel_rfl) (by kernel_rfl) (by kernel_rfl) (fun _ _ _ h => h) hS rfl (fun w hw => by obtain ⟨⟨c0, c3, c8, c17, c18, _, _, cG⟩, cL, _⟩ := hw; go_simp) ?_
  simp only [Act.put, List.setIfInBounds_toArray, List.set_cons_zero, List.set_cons_succ]
  refine wpTill.take 6 13 (.pointer (some ⟨S, 17, none⟩)) rfl rfl (by kernel_rfl) (by kernel_rfl) (by kernel_rfl) (by kernel_rfl) (fun _ _ _ h => h) hS rfl (fun w hw => by obtain ⟨⟨c0, c3, c8, c17, c18, _, _, cG⟩, cL, _⟩ := hw; go_simp) ?_
  simp only [Act.put, List.setIfInBounds_toArray, List.set_cons_zero, List.set_cons_succ]
  refine wpTill.take 7 14 (.pointer (some ⟨L, 0, none⟩)) rfl rfl (by kernel_rfl) (by kernel_rfl) (by kernel_rfl) (by kernel_rfl) (fun _ _ _ h => h) hS rfl (fun w hw => by obtain ⟨⟨c0, c3, c8, c17, c18, _, _, cG⟩, cL, _⟩ := hw; go_simp) ?_
  simp only [Act.put, List.setIfInBounds_toArray, List.set_cons_zero, List.set_cons_succ]
  refine wpTill.take 8 15 (.pointer (some ⟨L, 0, none⟩)) rfl rfl (by kernel_rfl) (by kernel_rfl) (by kernel_rfl) (by kernel_rfl) (fun _ _ _ h => h) hS rfl (fun w hw => by obtain ⟨⟨c0, c3, c8, c17, c18, _, _, cG⟩, cL, _⟩ := hw; go_simp) ?_
  simp only [Act.put, List.setIfInBounds_toArray, List.set_cons_zero, List.set_cons_succ]
  refine wpTill.take 9 16 (.pointer (some ⟨L, 0, none⟩)) rfl rfl (by kernel_rfl) (by kernel_rfl) (by kernel_rfl) (by kernel_rfl) (fun _ _ _ h => h) hS rfl (fun w hw => by obtain ⟨⟨c0, c3, c8, c17, c18, _, _, cG⟩, cL, _⟩ := hw; go_simp) ?_
  simp only [Act.put, List.setIfInBounds_toArray, List.set_cons_zero, List.set_cons_succ]
  refine wpTill.take 10 17 (v) rfl rfl (by kernel_rfl) (by kernel_rfl) (by kernel_rfl) (by kernel_rfl) (fun _ _ _ h => h) hS rfl (fun w hw => by obtain ⟨⟨c0, c3, c8, c17, c18, _, _, cG⟩, cL, _⟩ := hw; go_simp) ?_
  simp only [Act.put, List.setIfInBounds_toArray, List.set_cons_zero, List.set_cons_succ]
  refine wpTill.take 11 18 (.pointer (some ⟨S, 0, none⟩)) rfl rfl (by kernel_rfl) (by kernel_rfl) (by kernel_rfl) (by kernel_rfl) (fun _ _ _ h => h) hS rfl (fun w hw => by obtain ⟨⟨c0, c3, c8, c17, c18, _, _, cG⟩, cL, _⟩ := hw; go_simp) ?_
  simp only [Act.put, List.setIfInBounds_toArray, List.set_cons_zero, List.set_cons_succ]
  refine wpTill.take 12 19 (.pointer (some ⟨S, 0, none⟩)) rfl rfl (by kernel_rfl) (by kernel_rfl) (by kernel_rfl) (by kernel_rfl) (fun _ _ _ h => h) hS rfl (fun w hw => by obtain ⟨⟨c0, c3, c8, c17, c18, _, _, cG⟩, cL, _⟩ := hw; go_simp) ?_
  simp only [Act.put, List.setIfInBounds_toArray, List.set_cons_zero, List.set_cons_succ]
  refine wpTill.take 13 20 (.pointer (some ⟨S, 0, none⟩)) rfl rfl (by kernel_rfl) (by kernel_rfl) (by kernel_rfl) (by kernel_rfl) (fun _ _ _ h => h) hS rfl (fun w hw => by obtain ⟨⟨c0, c3, c8, c17, c18, _, _, cG⟩, cL, _⟩ := hw; go_simp) ?_
  simp only [Act.put, List.setIfInBounds_toArray, List.set_cons_zero, List.set_cons_succ]
  refine wpTill.take 14 21 (.pointer (some ⟨S, 3, none⟩)) rfl rfl (by kernel_rfl) (by kernel_rfl) (by kernel_rfl) (by kernel_rfl) (fun _ _ _ h => h) hS rfl (fun w hw => by obtain ⟨⟨c0, c3, c8, c17, c18, _, _, cG⟩, cL, _⟩ := hw; go_simp) ?_
  simp only [Act.put, List.setIfInBounds_toArray, List.set_cons_zero, List.set_cons_succ]
  refine wpTill.take 15 22 (.slice oa on oc) rfl rfl (by kernel_rfl) (by kernel_rfl) (by kernel_rfl) (by kernel_rfl) (fun _ _ _ h => h) hS rfl (fun w hw => by obtain ⟨⟨c0, c3, c8, c17, c18, _, _, cG⟩, cL, _⟩ := hw; go_simp) ?_
  simp only [Act.put, List.setIfInBounds_toArray, List.set_cons_zero, List.set_cons_succ]
  refine wpTill.take 16 23 (.int .i64 (on : Int)) rfl rfl (by kernel_rfl) (by kernel_rfl) (by kernel_rfl) (by kernel_rfl) (fun _ _ _ h => h) hS rfl (fun w hw => by obtain ⟨⟨c0, c3, c8, c17, c18, _, _, cG⟩, cL, _⟩ := hw; go_simp) ?_
  simp only [Act.put, List.setIfInBounds_toArray, List.set_cons_zero, List.set_cons_succ]
  refine wpTill.take 17 24 (.pointer (some ⟨S, 0, none⟩)) rfl rfl (by kernel_rfl) (by kernel_rfl) (by kernel_rfl) (by kernel_rfl) (fun _ _ _ h => h) hS rfl (fun w hw => by obtain ⟨⟨c0, c3, c8, c17, c18, _, _, cG⟩, cL, _⟩ := hw; go_simp) ?_
  simp only [Act.put, List.setIfInBounds_toArray, List.set_cons_zero, List.set_cons_succ]
  refine wpTill.take 18 25 (.pointer (some ⟨S, 0, none⟩)) rfl rfl (by kernel_rfl) (by kernel_rfl) (by kernel_rfl) (by kernel_rfl) (fun _ _ _ h => h) hS rfl (fun w hw => by obtain ⟨⟨c0, c3, c8, c17, c18, _, _, cG⟩, cL, _⟩ := hw; go_simp) ?_
  simp only [Act.put, List.setIfInBounds_toArray, List.set_cons_zero, List.set_cons_succ]
  refine wpTill.take 19 26 (.pointer (some ⟨S, 0, none⟩)) rfl rfl (by kernel_rfl) (by kernel_rfl) (by kernel_rfl) (by kernel_rfl) (fun _ _ _ h => h) hS rfl (fun w hw => by obtain ⟨⟨c0, c3, c8, c17, c18, _, _, cG⟩, cL, _⟩ := hw; go_simp) ?_
  simp only [Act.put, List.setIfInBounds_toArray, List.set_cons_zero, List.set_cons_succ]
  refine wpTill.take 20 27 (.pointer (some ⟨S, 6, none⟩)) rfl rfl (by kernel_rfl) (by kernel_rfl) (by kernel_rfl) (by kernel_rfl) (fun _ _ _ h => h) hS rfl (fun w hw => by obtain ⟨⟨c0, c3, c8, c17, c18, _, _, cG⟩, cL, _⟩ := hw; go_simp) ?_
  simp only [Act.put, List.setIfInBounds_toArray, List.set_cons_zero, List.set_cons_succ]
  refine wpTill.take 21 28 (.pointer (some ⟨S, 8, none⟩)) rfl rfl (by kernel_rfl) (by kernel_rfl) (by kernel_rfl) (by kernel_rfl) (fun _ _ _ h => h) hS rfl (fun w hw => by obtain ⟨⟨c0, c3, c8, c17, c18, _, _, cG⟩, cL, _⟩ := hw; go_simp) ?_
  simp only [Act.put, List.setIfInBounds_toArray, List.set_cons_zero, List.set_cons_succ]
  refine wpTill.take 22 29 (.int .i64 T) rfl rfl (by kernel_rfl) (by kernel_rfl) (by kernel_rfl) (by kernel_rfl) (fun _ _ _ h => h) hS rfl (fun w hw => by obtain ⟨⟨c0, c3, c8, c17, c18, _, _, cG⟩, cL, _⟩ := hw; go_simp) ?_
  simp only [Act.put, List.setIfInBounds_toArray, List.set_cons_zero, List.set_cons_succ]
  refine wpTill.take 23 30 (.pointer (some ⟨S, 0, none⟩)) rfl rfl (by kernel_rfl) (by kernel_rfl) (by kernel_rfl) (by kernel_rfl) (fun _ _ _ h => h) hS rfl (fun w hw => by obtain ⟨⟨c0, c3, c8, c17, c18, _, _, cG⟩, cL, _⟩ := hw; go_simp) ?_
  simp only [Act.put, List.setIfInBounds_toArray, List.set_cons_zero, List.set_cons_succ]
  refine wpTill.take 24 31 (.pointer (some ⟨S, 0, none⟩)) rfl rfl (by kernel_rfl) (by kernel_rfl) (by kernel_rfl) (by kernel_rfl) (fun _ _ _ h => h) hS rfl (fun w hw => by obtain ⟨⟨c0, c3, c8, c17, c18, _, _, cG⟩, cL, _⟩ := hw; go_simp) ?_
  simp only [Act.put, List.setIfInBounds_toArray, List.set_cons_zero, List.set_cons_succ]
  refine wpTill.take 25 32 (.pointer (some ⟨S, 18, none⟩)) rfl rfl (by kernel_rfl) (by kernel_rfl) (by kernel_rfl) (by kernel_rfl) (fun _ _ _ h => h) hS rfl (fun w hw => by obtain ⟨⟨c0, c3, c8, c17, c18, _, _, cG⟩, cL, _⟩ := hw; go_simp) ?_
  simp only [Act.put, List.setIfInBounds_toArray, List.set_cons_zero, List.set_cons_succ]
  refine wpTill.take 26 33 (.int .i64 lg) rfl rfl (by kernel_rfl) (by kernel_rfl) (by kernel_rfl) (by kernel_rfl) (fun _ _ _ h => h) hS rfl (fun w hw => by obtain ⟨⟨c0, c3, c8, c17, c18, _, _, cG⟩, cL, _⟩ := hw; go_simp) ?_
  simp only [Act.put, List.setIfInBounds_toArray, List.set_cons_zero, List.set_cons_succ]
  refine wpTill.take 27 34 (.int .i64 (IntKind.i64.wrap (T - lg))) rfl rfl (by kernel_rfl) (by kernel_rfl) (by kernel_rfl) (by kernel_rfl) (fun _ _ _ h => h) hS rfl (fun w hw => by obtain ⟨⟨c0, c3, c8, c17, c18, _, _, cG⟩, cL, _⟩ := hw; go_simp) ?_
  simp only [Act.put, List.setIfInBounds_toArray, List.set_cons_zero, List.set_cons_succ]
  refine wpTill.take 28 35 (.pointer (some ⟨S, 0, none⟩)) rfl rfl (by kernel_rfl) (by kernel_rfl) (by kernel_rfl) (by kernel_rfl) (fun _ _ _ h => h) hS rfl (fun w hw => by obtain ⟨⟨c0, c3, c8, c17, c18, _, _, cG⟩, cL, _⟩ := hw; go_simp) ?_
  simp only [Act.put, List.setIfInBounds_toArray, List.set_cons_zero, List.set_cons_succ]
  refine wpTill.take 29 36 (.pointer (some ⟨S, 0, none⟩)) rfl rfl (by kernel_rfl) (by kernel_rfl) (by kernel_rfl) (by kernel_rfl) (fun _ _ _ h => h) hS rfl (fun w hw => by obtain ⟨⟨c0, c3, c8, c17, c18, _, _, cG⟩, cL, _⟩ := hw; go_simp) ?_
  simp only [Act.put, List.setIfInBounds_toArray, List.set_cons_zero, List.set_cons_succ]
  refine wpTill.take 30 37 (.pointer (some ⟨S, 0, none⟩)) rfl rfl (by kernel_rfl) (by kernel_rfl) (by kernel_rfl) (by kernel_rfl) (fun _ _ _ h => h) hS rfl (fun w hw => by obtain ⟨⟨c0, c3, c8, c17, c18, _, _, cG⟩, cL, _⟩ := hw; go_simp) ?_
  simp only [Act.put, List.setIfInBounds_toArray, List.set_cons_zero, List.set_cons_succ]
  refine wpTill.take 31 38 (.pointer (some ⟨S, 0, none⟩)) rfl rfl (by kernel_rfl) (by kernel_rfl) (by kernel_rfl) (by kernel_rfl) (fun _ _ _ h => h) hS rfl (fun w hw => by obtain ⟨⟨c0, c3, c8, c17, c18, _, _, cG⟩, cL, _⟩ := hw; go_simp) ?_
  simp only [Act.put, List.setIfInBounds_toArray, List.set_cons_zero, List.set_cons_succ]
  refine wpTill.take 32 39 (.pointer (some ⟨G, 0, none⟩)) rfl rfl (by kernel_rfl) (by kernel_rfl) (by kernel_rfl) (by kernel_rfl) (fun _ _ _ h => h) hS rfl (fun w hw => by obtain ⟨⟨c0, c3, c8, c17, c18, _, _, cG⟩, cL, _⟩ := hw; go_simp) ?_
  simp only [Act.put, List.setIfInBounds_toArray, List.set_cons_zero, List.set_cons_succ]
  refine wpTill.ent 33 40 (.int .i64 ((an : Int) / 2)) (f := 12) (args := #[.pointer (some ⟨G, 0, none⟩)]) (by kernel_rfl) rfl rfl rfl (by go_simp) (edges_any G ga an gc w.drew han sp.adj) hS ?_
  simp only [Act.put, List.setIfInBounds_toArray, List.set_cons_zero, List.set_cons_succ]
  refine wpTill.take 34 41 (.agg #[.int .i64 (on : Int), .int .i64 (IntKind.i64.wrap (T - lg)), .int .i64 ((an : Int) / 2)]) rfl rfl (by kernel_rfl) (by kernel_rfl) (by kernel_rfl) (by kernel_rfl) (fun _ _ _ h => h) hS rfl (fun w hw => by obtain ⟨⟨c0, c3, c8, c17, c18, _, _, cG⟩, cL, _⟩ := hw; go_simp) ?_
  simp only [Act.put, List.setIfInBounds_toArray, List.set_cons_zero, List.set_cons_succ]
  have lS : S < w.heap.size := World.block_lt_of_cell? w _ sp.g
  have lL : L < w.heap.size := World.block_lt_of_cell? w _ hv
  have lG : G < w.heap.size := World.block_lt_of_cell? w _ sp.adj
  have hS2 : Held S L G oa ga on oc an gc T lg v (w.alloc (.cells #[.int .i64 (on : Int), .int .i64 (IntKind.i64.wrap (T - lg)), .int .i64 ((an : Int) / 2)] 26)).drew := hS.of_blocks (Below.heap_alloc w _ _ lS) (Below.heap_alloc w _ _ lG) (Below.heap_alloc w _ _ lL)
  refine wpTill.val 35 42 (.slice (some ⟨w.heap.size, 0, none⟩) 1 1) (w.alloc (.cells #[.int .i64 (on : Int), .int .i64 (IntKind.i64.wrap (T - lg)), .int .i64 ((an : Int) / 2)] 26)).drew (by kernel_rfl) rfl rfl rfl (by go_simp) hS2 ?_
  simp only [Act.put, List.setIfInBounds_toArray, List.set_cons_zero, List.set_cons_succ]
  refine wpTill.app 36 43 (by kernel_rfl) rfl rfl rfl (.tmp 17) (.tmp 42) 24 rfl base 26 i0 (.agg #[.int .i64 0, .int .i64 0, .int .i64 0]) 3 24 Yba.underlying24 hi0 hz0 hz1 hz2 rfl (by omega) v n xs rfl ((hown.alloc _).drew) ⟨w.heap.size, 0, none⟩ 1 1 [.int .i64 (on : Int), .int .i64 (IntKind.i64.wrap (T - lg)), .int .i64 ((an : Int) / 2)] rfl rfl (World.news_of_block (cs := #[.int .i64 (on : Int), .int .i64 (IntKind.i64.wrap (T - lg)), .int .i64 ((an : Int) / 2)]) (t := 26) (fr := (0, 0)) (heap_alloc_new w _)) (by simp [Value.oneCell']) (by omega) (by unfold maxLen; omega) (by omega) (by simp; omega) (w.heap.size + 1) (by simp) ?_
  intro g cap w1 hown1 hgrow hat hlt
  have hsz : (w.alloc (.cells #[.int .i64 (on : Int), .int .i64 (IntKind.i64.wrap (T - lg)), .int .i64 ((an : Int) / 2)] 26)).drew.heap.size = w.heap.size + 1 := by simp
  have eS : w1.heap[S]? = w.heap[S]? := (hgrow.block S (by omega) (Ne.symm nS)).trans (Below.heap_alloc w _ _ lS)
  have eL : w1.heap[L]? = w.heap[L]? := (hgrow.block L (by omega) (Ne.symm nL)).trans (Below.heap_alloc w _ _ lL)
  have eG : w1.heap[G]? = w.heap[G]? := (hgrow.block G (by omega) (Ne.symm nG)).trans (Below.heap_alloc w _ _ lG)
  have hS3 : Held S L G oa ga on oc an gc T lg v w1 := hS.of_blocks eS eG eL
  have gS : g ≠ S := by
    intro e
    rcases hat with h | h
    · exact nS (e ▸ h)
    · omega
  have gL : g ≠ L := by
    intro e
    rcases hat with h | h
    · exact nL (e ▸ h)
    · omega
  have gG : g ≠ G := by
    intro e
    rcases hat with h | h
    · exact nG (e ▸ h)
    · omega
  refine ⟨hS3, ?_⟩
  simp only [Act.put, List.setIfInBounds_toArray, List.set_cons_zero, List.set_cons_succ]
  refine wpTill.val 37 44 (.pointer (some ⟨L, 0, none⟩)) w1 (by kernel_rfl) rfl rfl rfl (by go_simp) hS3 ?_
  simp only [Act.put, List.setIfInBounds_toArray, List.set_cons_zero, List.set_cons_succ]
  refine wpTill.val 38 45 (.pointer (some ⟨L, 0, none⟩)) w1 (by kernel_rfl) rfl rfl rfl (by go_simp) hS3 ?_
  simp only [Act.put, List.setIfInBounds_toArray, List.set_cons_zero, List.set_cons_succ]
  have kL := hS3.2.1
  have kLf := hS3.2.2
  refine wpTill.fin (w1.setCell ⟨L, 0, none⟩ (.slice (some ⟨g, 0, none⟩) (n + 1) cap)) (by kernel_rfl) rfl rfl rfl (by go_simp) (by kernel_rfl) ?_
  have eS2 : (w1.setCell ⟨L, 0, none⟩ (.slice (some ⟨g, 0, none⟩) (n + 1) cap)).heap[S]? = w.heap[S]? := (heap_setCell_other w1 _ S _ hSL).trans eS
  have eG2 : (w1.setCell ⟨L, 0, none⟩ (.slice (some ⟨g, 0, none⟩) (n + 1) cap)).heap[G]? = w.heap[G]? := (heap_setCell_other w1 _ G _ (Ne.symm hLG)).trans eG
  have hown2 := ownsRow_setCell_other hown1 (a := ⟨L, 0, none⟩) (by simpa [Value.ownBlock] using gL) (.slice (some ⟨g, 0, none⟩) (n + 1) cap)
  have m0 : (w1.setCell ⟨L, 0, none⟩ (.slice (some ⟨g, 0, none⟩) (n + 1) cap)).cell? ⟨L, 0, none⟩ = some (.slice (some ⟨g, 0, none⟩) (n + 1) cap) := World.cell?_setCell_same _ _ _ kL
  have mf : (w1.setCell ⟨L, 0, none⟩ (.slice (some ⟨g, 0, none⟩) (n + 1) cap)).frozen? ⟨L, 0, none⟩ = false := (World.frozen?_setCell _ _ _ _).trans kLf
  have mj : ∀ j, j ≠ 0 → (w1.setCell ⟨L, 0, none⟩ (.slice (some ⟨g, 0, none⟩) (n + 1) cap)).cell? ⟨L, j, none⟩ = w.cell? ⟨L, j, none⟩ := fun j hj => (World.cell?_setCell_other _ _ _ _ (by intro e; cases e; exact hj rfl)).trans (World.cell?_of_block (w := w) eL)
  have mB : ∀ B, B ≤ S → B ≤ L → B ≤ base → Below B w (w1.setCell ⟨L, 0, none⟩ (.slice (some ⟨g, 0, none⟩) (n + 1) cap)) := by
    intro B bS bL bb
    have q1 : Below B w (w.alloc (.cells #[.int .i64 (on : Int), .int .i64 (IntKind.i64.wrap (T - lg)), .int .i64 ((an : Int) / 2)] 26)).drew := ((Below.refl B w).alloc (by omega) _).drew
    exact (q1.grown hgrow (by omega) (fun q hq => by have := (hown.lt q hq).1; omega)).setCell bL _
  have msz : w.heap.size ≤ (w1.setCell ⟨L, 0, none⟩ (.slice (some ⟨g, 0, none⟩) (n + 1) cap)).heap.size := by
    have := hgrow.size
    simp at this ⊢
    omega
  generalize w1.setCell ⟨L, 0, none⟩ (.slice (some ⟨g, 0, none⟩) (n + 1) cap) = w2 at *
  have sp2 := sp.of_blocks eS2 eG2
  have c8 := sp2.tr
  have c18 := sp2.logged
  have f18 := sp2.flogged
  clear hgrow hown1 hown kL kLf hS3 hS2 hS eS eL eG sp hat hlt hsz
  go_wp2
  go_end0
  have o1 : ∀ j, j ≠ 18 → (w2.setCell ⟨S, 18, none⟩ (.int .i64 T)).cell? ⟨S, j, none⟩ = w2.cell? ⟨S, j, none⟩ := fun j hj => World.cell?_setCell_other _ _ _ _ (by intro e; cases e; exact hj rfl)
  have o2 : ∀ b j, b ≠ S → (w2.setCell ⟨S, 18, none⟩ (.int .i64 T)).cell? ⟨b, j, none⟩ = w2.cell? ⟨b, j, none⟩ := fun b j hb => World.cell?_setCell_other _ _ _ _ (by intro e; cases e; exact hb rfl)
  refine ⟨rfl, g, cap, ⟨?_, ?_, ?_, ?_, ?_, ?_, ?_, ?_⟩, ?_, ?_, ?_, gS, gL, gG, ?_, ?_, ?_⟩
  · rw [o1 0 (by decide)]; exact sp2.g
  · rw [o1 3 (by decide)]; exact sp2.order
  · rw [o1 8 (by decide)]; exact sp2.tr
  · rw [o1 17 (by decide)]; exact sp2.log
  · exact World.cell?_setCell_same _ _ _ c18
  · exact (World.frozen?_setCell _ _ _ _).trans sp2.ftr
  · exact (World.frozen?_setCell _ _ _ _).trans f18
  · rw [o2 G 2 (Ne.symm hSG)]; exact sp2.adj
  · rw [o2 L 0 (Ne.symm hSL)]; exact m0
  · exact (World.frozen?_setCell _ _ _ _).trans mf
  · exact ownsRow_setCell_other hown2 (a := ⟨S, 18, none⟩) (by simpa [Value.ownBlock] using gS) _
  · intro j hj; rw [o2 L j (Ne.symm hSL)]; exact mj j hj
  · rw [World.size_setCell]; exact msz
  · intro B bS bL bb; exact (mB B bS bL bb).setCell bS _
end Go.Proofs.Ybulkbmaw
