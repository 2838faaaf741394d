/-
  A LAW THAT WAS LACKING, for a statement 'x.f = append(x.f, v)' through a pointer: one region that draws its order, whose LAST operation stores into a cell that the region itself loads.
  The library's law on a condition S for the whole region (OrdersHeld) asks S behind that store too, where it no longer holds. HERE S is asked behind every operation BUT THE LAST ONE; an operation may be taken first if it yields its value wherever S holds AND the last one waits for it.
-/
import Derived.OrdersHeld
import Derived.RegionTactic
import Derived.StillTail
import Derived.Deep.AppendLies
namespace Go.Proofs.Ybulkbmaw
open Go
section
variable {P : Program} {ops : Array Oper} {Q : Exit → Act → World → Prop} {md : Region.Mode} {S : World → Prop} {last : Nat}

/-- Whatever order is picked from here on; S holds behind every operation but number 'last'. -/
def wpTill (P : Program) (md : Region.Mode) (ops : Array Oper) (Q : Exit → Act → World → Prop) (S : World → Prop) (last : Nat) : Nat → Array Bool → Act → World → Prop
  | 0, listed, a, w => Region.ready md ops listed = [] ∧ Q .normal a w
  | n + 1, listed, a, w =>
    (Region.ready md ops listed = [] → Q .normal a w) ∧
    ∀ i ∈ Region.ready md ops listed, wpOp P ops Q i (fun a' w' => (i ≠ last → S w') ∧ wpTill P md ops Q S last n (listed.setIfInBounds i true) a' w') a w

theorem wpTill.any : ∀ (n : Nat) (listed : Array Bool) (a : Act) (w : World), wpTill P md ops Q S last n listed a w → wpAny P md ops Q n listed a w
  | 0, _, _, _, h => h
  | n + 1, _, _, _, h => ⟨h.1, fun i hi => wpOp_mono (fun a' w' h' => wpTill.any n _ a' w' h'.2) (h.2 i hi)⟩

/-- A ready operation has not come up. -/
theorem ready_off {i : Nat} {listed : Array Bool} (h : i ∈ Region.ready md ops listed) : listed.getD i false = false := by
  have h0 := (mem_ready.1 h).1
  rcases Nat.lt_or_ge i listed.size with h' | h'
  · simp [h'] at h0 ⊢
    exact h0
  · simp [Array.getElem?_eq_none h'] at h0

theorem wpTill.first {i : Nat} {oi : Oper} {v : Value} (hi : ops[i]? = some oi) (hsel : ∀ (j : Nat) (o : Oper) cs b, ops[j]? = some o → o.op ≠ .select cs b)
    (hQ : ∀ c a w, Q (.panic c) (a.put oi.dst v) w → Q (.panic c) a w) (hl : Region.waitsFor md ops last i = true) :
    ∀ (n : Nat) (listed : Array Bool) (a : Act) (w : World),
      (∀ j oj, ops[j]? = some oj → j ≠ i → listed.getD j true = false → (∀ e ∈ oj.after, Region.binds md e = true → e.on ≠ i) → oi.apart ops oj = true) →
      i ∈ Region.ready md ops listed → YieldsIf P ops S oi v a → S w →
      wpTill P md ops Q S last n (listed.setIfInBounds i true) (a.put oi.dst v) w → wpTill P md ops Q S last (n + 1) listed a w := by
  intro n
  induction n with
  | zero =>
    intro listed a w _ hr hy hS H
    refine ⟨fun h => absurd hr (by rw [h]; exact List.not_mem_nil), fun j hj => ?_⟩
    by_cases hji : j = i
    · subst hji
      exact hy.wpOp hi hS ⟨fun _ => hS, H⟩
    · have h1 := ready_mono hj hji
      rw [H.1] at h1
      cases h1
  | succ n ih =>
    intro listed a w hfree hr hy hS H
    refine ⟨fun h => absurd hr (by rw [h]; exact List.not_mem_nil), fun j hj => ?_⟩
    by_cases hji : j = i
    · subst hji
      exact hy.wpOp hi hS ⟨fun _ => hS, H⟩
    · obtain ⟨hjun, oj, hoj, hall⟩ := mem_ready.1 hj
      have hoff := ready_off hr
      have hnot : ∀ e ∈ oj.after, Region.binds md e = true → e.on ≠ i := fun e he hb heq => by
        have h1 := hall e he hb
        rw [heq, hoff] at h1
        cases h1
      have hjl : j ≠ last := fun e => by
        subst e
        obtain ⟨ol, hol, e, he, hb, hon⟩ := Region.waitsFor_spec hl
        rw [hoj] at hol
        cases hol
        exact hnot e he hb hon
      have h2 := wpOp_putIf hoj (hfree j oj hoj hji hjun hnot) (fun cs b => hsel i oi cs b hi) (fun cs b => hsel j oj cs b hoj) hQ hy (H.2 j (ready_mono hj hji))
      have hfree' : ∀ k ok, ops[k]? = some ok → k ≠ i → (listed.setIfInBounds j true).getD k true = false →
          (∀ e ∈ ok.after, Region.binds md e = true → e.on ≠ i) → oi.apart ops ok = true := fun k ok hk hki hun hno => by
        refine hfree k ok hk hki ?_ hno
        by_cases hjk : j = k
        · subst hjk
          exact hjun
        · rwa [getD_set_ne true hjk] at hun
      refine wpOp_mono (fun a' w' h3 => ⟨h3.2.1, ih (listed.setIfInBounds j true) a' w' hfree' (ready_mono hr (Ne.symm hji)) h3.1 (h3.2.1 hjl) ?_⟩) h2
      rw [Array.setIfInBounds_comm _ _ hji]
      exact h3.2.2

/-- TAKE NUMBER i FIRST: it leaves v in slot t. -/
theorem wpTill.take (i t : Nat) {oi : Oper} (v : Value) {n : Nat} {listed : Array Bool} {a : Act} {w : World} (hi : ops[i]? = some oi) (hd : oi.dst = some t) (hl : Region.waitsFor md ops last i = true)
    (hs : Region.noSelect ops = true) (hf : Region.free md ops listed i = true) (hr : (Region.ready md ops listed).contains i = true)
    (hQ : ∀ c a w, Q (.panic c) (a.put (some t) v) w → Q (.panic c) a w) (hS : S w) (hw : Region.wanted oi (yielded ops a.tmps) = true) (hy : ∀ w, S w → (execOp a.eval oi).run P w = .ok (.value v) w)
    (h : wpTill P md ops Q S last n (listed.setIfInBounds i true) (a.put (some t) v) w) : wpTill P md ops Q S last (n + 1) listed a w :=
  wpTill.first hi (Region.noSelect_spec hs) (by rw [hd]; exact hQ) hl n listed a w (Region.free_spec hi hf) (by simpa using hr) (.inl ⟨hw, hy⟩) hS (by rw [hd]; exact h)

/-- NUMBER i ALONE MAY COME UP: it is carried out. -/
theorem wpTill.one (i : Nat) {o : Oper} {n : Nat} {listed : Array Bool} {a : Act} {w : World} (hr : Region.ready md ops listed = [i]) (hi : ops[i]? = some o) (hw : Region.wanted o (yielded ops a.tmps) = true)
    (h : ∀ K : Act → World → Prop, (∀ a w, (i ≠ last → S w) → wpTill P md ops Q S last n (listed.setIfInBounds i true) a w → K a w) → Oper.wp P o a w K Q) : wpTill P md ops Q S last (n + 1) listed a w := by
  refine ⟨fun h0 => (by rw [hr] at h0; cases h0), fun j hj => ?_⟩
  rw [hr, List.mem_singleton] at hj
  subst hj
  exact wpOp_step hi (fun K hK => by rw [if_pos hw]; exact h K (fun a w h1 h2 => hK a w ⟨h1, h2⟩))

/-- .. and yields v in slot t, in the world w'. -/
theorem wpTill.val (i t : Nat) {o : Oper} (v : Value) (w' : World) {n : Nat} {listed : Array Bool} {a : Act} {w : World} (hr : Region.ready md ops listed = [i]) (hi : ops[i]? = some o) (hd : o.dst = some t) (hw : Region.wanted o (yielded ops a.tmps) = true)
    (hrun : (execOp a.eval o).run P w = .ok (.value v) w') (hS : S w') (h : wpTill P md ops Q S last n (listed.setIfInBounds i true) (a.put (some t) v) w') : wpTill P md ops Q S last (n + 1) listed a w := by
  refine wpTill.one i hr hi hw fun K hK => ?_
  unfold Oper.wp
  rw [hrun]
  simp only [Oper.upon, hd]
  exact hK _ _ (fun _ => hS) h

/-- .. and calls a Go function that leaves the world as it was. -/
theorem wpTill.ent (i t : Nat) {o : Oper} (v : Value) {f : FuncId} {args : Array Value} {n : Nat} {listed : Array Bool} {a : Act} {w : World} (hr : Region.ready md ops listed = [i]) (hi : ops[i]? = some o) (hd : o.dst = some t) (hw : Region.wanted o (yielded ops a.tmps) = true)
    (hrun : (execOp a.eval o).run P w = .ok (.enter f args) w) (hc : Calls P f args w fun e w' => e = .returned v ∧ w = w') (hS : S w) (h : wpTill P md ops Q S last n (listed.setIfInBounds i true) (a.put (some t) v) w) : wpTill P md ops Q S last (n + 1) listed a w := by
  refine wpTill.one i hr hi hw fun K hK => ?_
  unfold Oper.wp
  rw [hrun]
  simp only [Oper.upon, hd]
  refine hc.mono ?_
  rintro e w' ⟨rfl, rfl⟩
  exact hK _ _ (fun _ => hS) h

/-- .. and is an append onto a row that the call owns. -/
theorem wpTill.app (i t : Nat) {o : Oper} {k : Nat} {listed : Array Bool} {a : Act} {w : World} (hr : Region.ready md ops listed = [i]) (hop : ops[i]? = some o) (hd : o.dst = some t) (hw : Region.wanted o (yielded ops a.tmps) = true)
    (s x : Operand) (ty : TypeId) (ho : o.op = .call { callee := .builtin .append, args := #[s, x], argTypes := #[ty, ty] })
    (base : Nat) (e : TypeId) (i0 : TypeInfo) (z : Value) (size bytes : Nat) (ht : P.underlying ty = some (.slice e)) (hi : P.info? e = some i0) (hz : i0.zero = some z)
    (hsize : i0.size = size) (hby : i0.bytes = bytes) (hzs : z.cells.size = size) (hsz : 0 < size)
    (v : Value) (n : Nat) (xs : List Value) (hs : a.eval s = v) (hown : w.ownsRow base e size v n xs)
    (ad : Addr) (m c : Nat) (news : List Value) (hx : a.eval x = .slice (some ad) m c) (hl : news.length = m * size) (hnews : ∀ j u, news[j]? = some u → w.cell? (ad.add j) = some u) (h1 : ∀ u ∈ news, u.oneCell' = true)
    (hm : 0 < m) (h63 : n + m ≤ maxLen) (hbytes : (n + m) * bytes ≤ 140737488355328) (hbase : base ≤ w.heap.size) (H : Nat) (hH : w.heap.size = H)
    (h : ∀ g cap w', w'.ownsRow base e size (.slice (some ⟨g, 0, none⟩) (n + m) cap) (n + m) (xs ++ news) → w.grownBy w' v.ownBlock → (v.ownBlock = some g ∨ g = H) → g < w'.heap.size →
      S w' ∧ wpTill P md ops Q S last k (listed.setIfInBounds i true) (a.put (some t) (.slice (some ⟨g, 0, none⟩) (n + m) cap)) w') : wpTill P md ops Q S last (k + 1) listed a w := by
  refine wpTill.one i hr hop hw fun K hK => ?_
  refine wp_append_lies w s x ty ho base e i0 z size bytes ht hi hz hsize hby hzs hsz v n xs hs hown ad m c news hx hl hnews h1 hm h63 hbytes hbase H hH fun g cap w' q1 q2 q3 q4 => ?_
  obtain ⟨p1, p2⟩ := h g cap w' q1 q2 q3 q4
  rw [hd]
  exact hK _ _ (fun _ => p1) p2

theorem wpTill.done {listed : Array Bool} {a : Act} {w : World} (hr : Region.ready md ops listed = []) (h : Q .normal a w) : ∀ n, wpTill P md ops Q S last n listed a w
  | 0 => ⟨hr, h⟩
  | _ + 1 => ⟨fun _ => h, by rw [hr]; intro i hi; cases hi⟩

/-- The last one, which leaves nothing in a slot; behind it nothing may come up. -/
theorem wpTill.fin {o : Oper} (w' : World) {n : Nat} {listed : Array Bool} {a : Act} {w : World} (hr : Region.ready md ops listed = [last]) (hi : ops[last]? = some o) (hd : o.dst = none) (hw : Region.wanted o (yielded ops a.tmps) = true)
    (hrun : (execOp a.eval o).run P w = .ok .skip w') (hr' : Region.ready md ops (listed.setIfInBounds last true) = []) (h : Q .normal a w') : wpTill P md ops Q S last (n + 1) listed a w := by
  refine wpTill.one last hr hi hw fun K hK => ?_
  unfold Oper.wp
  rw [hrun]
  simp only [Oper.upon, hd]
  exact hK _ _ (fun h => absurd rfl h) (wpTill.done hr' (by simpa [Act.put] using h) n)

/-- THE BEGINNING. -/
theorem wp_region_till (S : World → Prop) (last : Nat) {id : Nat} {a : Act} {w : World} (hm : P.follows .mixedOrders = true)
    (h : wpTill P .any ops Q S last ops.size (Array.replicate ops.size false) a w.drew) : (Code.region id ops true).wp P Q a w :=
  wp_region_any hm (wpTill.any _ _ _ _ h)
end
end Go.Proofs.Ybulkbmaw
