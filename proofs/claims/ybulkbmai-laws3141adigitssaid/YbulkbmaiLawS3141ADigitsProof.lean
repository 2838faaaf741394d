/- The law 'LawS3141ADigits': the frame after the kit's own shell for this function; the walk is ours. -/
import Derived.Test.YbulkbmaiRows
import Derived.WalkKit
import Derived.ProofKit
import Derived.OpenShut
import Derived.ShutString
import Derived.ChangeOld
import Derived.Below
import Derived.Test.YbulkbmaiDigits
namespace Go.Proofs.Ybulkbmai.lawS3141ADigits
open Go.ChangeShapes Go.WideShapes Go.ChangeAt Go.RowKit
open Go.ChangeMaps (open_string shut_string)
set_option linter.unusedVariables false

theorem own : ownKnob Yba.prog.godebug = none := by kernel_rfl
theorem laidOut : laidOutB Yba.prog = true := by kernel_rfl

/-- WHAT THE WALK IS TOLD OF A SLICE OF INTEGERS THAT CAME IN: it is nil; or it leads to a row of 'cap' cells, the numbers 'zs' (the first 'len' are its elements, the rest its spare room), each fitting its kind. -/
def IsRow (k : IntKind) (w : World) (a : Option Addr) (len cap : Nat) (zs : List Int) : Prop :=
  (a = none ∧ len = 0 ∧ cap = 0 ∧ zs = []) ∨
  ∃ x, a = some x ∧ len ≤ cap ∧ cap ≤ maxLen ∧ zs.length = cap ∧ (∀ i, i < zs.length → w.cell? (x.add i) = some (.int k (zs.getD i 0))) ∧ ∀ n ∈ zs, (Lit.int k n).wf = true

/-! ### THE WALK -/
def tabS : ByteArray := ⟨#[48, 49, 50, 51, 52, 53, 54, 55, 56, 57, 47, 58, 46, 45, 101]⟩
theorem tabS_size : tabS.size = 15 := rfl

theorem tab_any (w : World) : Calls Yba.prog 4 #[] w fun e w' => e = .returned (.string tabS) ∧ w = w' := by
  go_enter Yba.func4, Yba.ntmps4
  go_wp2
  go_ret
  exact ⟨rfl, rfl⟩

def T (z : Int) : Int := if h : (z % 15).toNat < tabS.size then ((tabS[(z % 15).toNat]'h).toNat : Int) else 0

theorem info5 : (Yba.prog.info? 5).map (fun i => (i.zero, i.size, i.bytes)) = some (some (.int .u8 0), 1, 1) := by kernel_rfl

theorem walk_long (a0 : Option Addr) (len0 cap0 : Nat) (a1 : Int) (w : World) (h : 4096 < len0) (hm : len0 ≤ maxLen) :
    Calls Yba.prog 3 #[.slice a0 len0 cap0, .int .u16 a1] w fun e w' => e = .returned (.bool true) ∧ Below w.heap.size w w' := by
  unfold maxLen at hm
  have h' : (4096 : Int) < (len0 : Int) := by omega
  go_enter Yba.func3, Yba.ntmps3
  go_wp2
  go_ret
  exact ⟨rfl, Below.refl _ _⟩

set_option maxHeartbeats 1000000 in
theorem walk_short (a0 : Option Addr) (n cap0 : Nat) (z0 : List Int) (o : Nat) (w : World) (hn : n ≤ 4096) (ho : o ≤ 65535)
    (hrow : 0 < n → ∃ b off, a0 = some ⟨b, off, none⟩ ∧ b < w.heap.size ∧ ∀ j, j < n → w.cell? ⟨b, off + j, none⟩ = some (.int .u8 (z0.getD j 0)))
    (hz : ∀ j, 0 ≤ z0.getD j 0 ∧ z0.getD j 0 ≤ 255) :
    Calls Yba.prog 3 #[.slice a0 n cap0, .int .u16 (o : Int)] w fun e w' => e = .returned (.bool true) ∧ Below w.heap.size w w' := by
  obtain ⟨i0, hi, hz0, hz1, hz2⟩ := info_parts info5
  obtain ⟨m, eo, hmn⟩ : ∃ m : Nat, (o : Int) % ((n : Int) + 2) = (m : Int) ∧ m ≤ n + 1 := ⟨o % (n + 2), by rw [Int.natCast_emod]; rfl, by have := Nat.mod_lt o (show 0 < n + 2 by omega); omega⟩
  go_enter Yba.func3, Yba.ntmps3
  go_wp2_with (first
    | (go_at_call 4; refine (tab_any _).mono ?_; rintro e w' ⟨rfl, rfl⟩)
    | (at_make; refine wpList_make_full _ rfl _ _ 22 rfl w.heap.size 5 i0 (.int .u8 0) 1 Yba.underlying22 hi hz0 hz1 _ _ _ _ n rfl rfl rfl rfl (by rw [hz2]; omega) (by unfold maxLen; omega) (Nat.le_refl _) ?_; intro w1 hown hgr))
  go_loopw [26] (fun i wr => ∃ k : Nat, k ≤ n ∧ i = .int .i64 k ∧ Below w.heap.size w wr ∧ ∃ xs, wr.ownsRow w.heap.size 5 1 (.slice (some ⟨w.heap.size, 0, none⟩) n n) n xs ∧ ∀ j, j < k → xs[j]? = some (.int .u8 (T (z0.getD j 0))))
    (fun i _ => n - (intOf i).toNat)
  case atStart => exact ⟨0, Nat.zero_le _, rfl, (Below.refl _ _).grown hgr (Nat.le_refl _) (by simp), _, hown, by omega⟩
  case round =>
    obtain ⟨k, hk, rfl, hbel, xs, hox, hxs⟩ := hrel
    clear hown hgr
    by_cases hlt : k < n
    · obtain ⟨b, off, rfl, hbw, hcell⟩ := hrow (by omega)
      have hce := (hbel.cell (p := ⟨b, off + k, none⟩) hbw).trans (hcell k hlt)
      have hfz := hox.frozenAt k
      have hcx : wr.cell? ⟨w.heap.size, k, none⟩ = some (xs.getD k (.int .u8 0)) := by
        rw [hox.cellAt k (by omega)]
        have := hox.1
        simp [List.getD, show k < xs.length by omega]
      obtain ⟨z, hzz⟩ : ∃ z, z = z0.getD k 0 := ⟨_, rfl⟩
      obtain ⟨u, huu⟩ : ∃ u, u = xs.getD k (.int .u8 0) := ⟨_, rfl⟩
      have hzk := hz k
      rw [← hzz] at hce hzk
      rw [← huu] at hcx
      have HZ : Hid (z = z0.getD k 0) := hzz
      clear hzz huu hcell
      have HX : Hid (∀ j, j < k → xs[j]? = some (.int .u8 (T (z0.getD j 0)))) := hxs
      clear hxs hrow
      have hts := tabS_size
      go_wp2
      go_roundw
      case rel =>
        obtain ⟨o1, o2⟩ := hox.stored k (.int .u8 (T z))
        have et : ∀ h : (z % 15).toNat < tabS.size, ((tabS[(z % 15).toNat]'h).toNat : Int) = T z := fun h => by unfold T; rw [dif_pos h]
        rw [et]
        refine ⟨k + 1, by omega, by go_num, hbel.setCell (Nat.le_refl _) _, xs.set k (.int .u8 (T z)), o1, ?_⟩
        intro j hj
        have hxl := hox.1
        rw [List.getElem?_set]
        by_cases e : j = k
        · subst e
          rw [if_pos rfl, if_pos (by omega), HZ.out]
        · rw [if_neg (by omega)]
          exact HX.out j (by omega)
      case measure => simp [intOf]; omega
    · have hkn : k = n := by omega
      subst hkn
      go_wp2_with fail
      have hBs : w.heap.size < wr.heap.size := (hox.lt w.heap.size rfl).2
      refine (digits_any wr.heap.size w.heap.size k m (fun j => T (z0.getD j 0)) _ hBs hn hmn (by simp) (by simp) (by simp) ?_).mono ?_
      · intro j hj
        have := hox.cellAt j (by omega)
        rw [hxs j hj] at this
        rw [World.cell?_alloc_past _ _ _ hBs]
        exact this
      rintro e w2 ⟨c, rfl, hrun, hcle, hb2, e0, e1⟩
      have hcd : ∀ j, j < k → w2.cell? ⟨w.heap.size, j, none⟩ = some (.int .u8 (T (z0.getD j 0))) := by
        intro j hj
        have := hox.cellAt j (by omega)
        rw [hxs j hj] at this
        rw [hb2.cell (p := ⟨w.heap.size, j, none⟩) hBs, World.cell?_alloc_past _ _ _ hBs]
        exact this
      have hbe : Below w.heap.size w w2 := (hbel.alloc (by omega) _).trans (hb2.mono (by omega))
      have hcr : ∀ b off, b < w.heap.size → w2.cell? ⟨b, off, none⟩ = w.cell? ⟨b, off, none⟩ := fun b off hb => hbe.cell (p := ⟨b, off, none⟩) hb
      obtain ⟨t, ht⟩ : ∃ t, t = wr.heap.size := ⟨_, rfl⟩
      rw [← ht] at e0 e1
      clear hb2 hxs hox hbel hBs hlt
      have HCR : Hid (∀ b off, b < w.heap.size → w2.cell? ⟨b, off, none⟩ = w.cell? ⟨b, off, none⟩) := hcr
      have HRU : Hid (IsRun (fun j => T (z0.getD j 0)) k m c) := hrun
      have HCD : Hid (∀ j, j < k → w2.cell? ⟨w.heap.size, j, none⟩ = some (.int .u8 (T (z0.getD j 0)))) := hcd
      clear hcr hrun hcd
      go_wp2_with fail
      rw [← ht]
      clear ht
      go_loop [12, 13] (fun v i => ∃ q : Nat, v = .int .i64 q ∧ i = .int .i64 ((m + q : Nat) : Int) ∧ m + q ≤ k + 1 ∧ ∀ j, j < q → m + j < k ∧ 48 ≤ T (z0.getD (m + j) 0) ∧ T (z0.getD (m + j) 0) ≤ 57)
        (fun _ i => k + 1 - (intOf i).toNat)
      case atStart => exact ⟨0, rfl, rfl, by omega, by omega⟩
      case round =>
        obtain ⟨q, rfl, rfl, hq, hqs⟩ := hrel
        by_cases hmk : m + q < k
        · have hce := HCD.out (m + q) hmk
          have hl : (m : Int) + (q : Int) < (k : Int) := by omega
          have HQ : Hid (∀ j, j < q → m + j < k ∧ 48 ≤ T (z0.getD (m + j) 0) ∧ T (z0.getD (m + j) 0) ≤ 57) := hqs
          clear hqs
          obtain ⟨x, hx⟩ : ∃ x, x = T (z0.getD (m + q) 0) := ⟨_, rfl⟩
          rw [← hx] at hce
          have HX : Hid (x = T (z0.getD (m + q) 0)) := hx
          clear hx
          by_cases hd : 48 ≤ x ∧ x ≤ 57
          · obtain ⟨ha, hb⟩ := hd
            go_wp2
            go_round
            case rel =>
              refine ⟨q + 1, by go_num, by go_num, by omega, ?_⟩
              intro j hj
              by_cases e : j = q
              · subst e
                rw [← HX.out]
                exact ⟨hmk, ha, hb⟩
              · exact HQ.out j (by omega)
            case measure => simp [intOf]; omega
          · have hqc : q = c := IsRun.unique ⟨HQ.out, fun _ => by show T (z0.getD (m + q) 0) < 48 ∨ 57 < T (z0.getD (m + q) 0); rw [← HX.out]; omega⟩ HRU.out
            subst hqc
            clear HX HQ
            by_cases hx48 : x < 48
            all_goals
              go_wp2
              have hts := tabS_size
              go_loopw [96] (fun i wr3 => ∃ r : Nat, r ≤ k ∧ i = .int .i64 r ∧ ∃ nq, wr3 = w2.drewN nq) (fun i _ => k - (intOf i).toNat)
              case atStart => exact ⟨0, Nat.zero_le _, rfl, 0, rfl⟩
              case round =>
                obtain ⟨r, hr, rfl, nq, rfl⟩ := hrel
                by_cases hrk : r < k
                · obtain ⟨b, off, rfl, hbw, hcell⟩ := hrow (by omega)
                  have hra := (HCR.out b (off + r) hbw).trans (hcell r hrk)
                  have hzr := hz r
                  have hda := HCD.out r hrk
                  obtain ⟨z, hzz⟩ : ∃ z, z = z0.getD r 0 := ⟨_, rfl⟩
                  rw [← hzz] at hra hzr hda
                  have hzl : (z % 15).toNat < tabS.size := by rw [hts]; omega
                  have et : T z = ((tabS[(z % 15).toNat]'hzl).toNat : Int) := by unfold T; rw [dif_pos hzl]
                  rw [et] at hda
                  clear hzz hcell et hrow
                  have hzm1 : 0 ≤ z % 15 := by omega
                  have hzm2 : z % 15 < 15 := by omega
                  go_wp2
                  go_quiet (fail)
                  go_wp2
                  go_roundw
                  case rel => exact ⟨r + 1, by omega, by go_num, _, rfl⟩
                  case measure => simp [intOf]; omega
                · go_wp2
                  go_ret
                  exact ⟨rfl, below_drewN hbe _⟩
        · have hqc : q = c := IsRun.unique ⟨hqs, fun h => absurd h hmk⟩ HRU.out
          subst hqc
          clear hqs
          go_wp2
          have hts := tabS_size
          go_loopw [96] (fun i wr3 => ∃ r : Nat, r ≤ k ∧ i = .int .i64 r ∧ ∃ nq, wr3 = w2.drewN nq) (fun i _ => k - (intOf i).toNat)
          case atStart => exact ⟨0, Nat.zero_le _, rfl, 0, rfl⟩
          case round =>
            obtain ⟨r, hr, rfl, nq, rfl⟩ := hrel
            by_cases hrk : r < k
            · obtain ⟨b, off, rfl, hbw, hcell⟩ := hrow (by omega)
              have hra := (HCR.out b (off + r) hbw).trans (hcell r hrk)
              have hzr := hz r
              have hda := HCD.out r hrk
              obtain ⟨z, hzz⟩ : ∃ z, z = z0.getD r 0 := ⟨_, rfl⟩
              rw [← hzz] at hra hzr hda
              have hzl : (z % 15).toNat < tabS.size := by rw [hts]; omega
              have et : T z = ((tabS[(z % 15).toNat]'hzl).toNat : Int) := by unfold T; rw [dif_pos hzl]
              rw [et] at hda
              clear hzz hcell et hrow
              have hzm1 : 0 ≤ z % 15 := by omega
              have hzm2 : z % 15 < 15 := by omega
              go_wp2
              go_quiet (fail)
              go_wp2
              go_roundw
              case rel => exact ⟨r + 1, by omega, by go_num, _, rfl⟩
              case measure => simp [intOf]; omega
            · go_wp2
              go_ret
              exact ⟨rfl, below_drewN hbe _⟩

theorem walk (a0 : Option Addr) (len0 cap0 : Nat) (z0 : List Int) (a1 : Int) (w : World) (w0 : IsRow .u8 w a0 len0 cap0 z0) (w1 : (Lit.int .u16 a1).wf = true) :
    Calls Yba.prog 3 #[.slice a0 len0 cap0, .int .u16 a1] w fun e w' => e = .returned (.bool true) ∧ Below w.heap.size w w' := by
  obtain ⟨b1, b2⟩ := bounds_u16 w1
  have hwz : ∀ n ∈ z0, (Lit.int .u8 n).wf = true := by
    rcases w0 with ⟨_, _, _, rfl⟩ | ⟨x, _, _, _, _, _, h⟩
    · simp
    · exact h
  have hlm : len0 ≤ maxLen := by
    rcases w0 with ⟨_, rfl, _, _⟩ | ⟨x, _, h1, h2, _⟩
    · exact Nat.zero_le _
    · omega
  obtain ⟨o, rfl⟩ : ∃ o : Nat, a1 = (o : Int) := ⟨a1.toNat, by omega⟩
  by_cases h : 4096 < len0
  · exact walk_long a0 len0 cap0 _ w h hlm
  · refine walk_short a0 len0 cap0 z0 o w (by omega) (by omega) ?_ (fun j => by simpa using range_u8 hwz j)
    intro hp
    rcases w0 with ⟨_, rfl, _, _⟩ | ⟨x, rfl, h1, h2, h3, h4, _⟩
    · omega
    · obtain ⟨b, off, rfl, hc⟩ := ints_at h4 (by omega)
      exact ⟨b, off, rfl, by simpa using World.block_lt_of_cell? _ _ (hc 0 (by omega)), fun j hj => hc j (by omega)⟩

/-! ### THE ROW's STEP: WRITTEN OUT: LEAVE IT -/
set_option maxRecDepth 100000 in
theorem lifted (os : Os) (started : os.Started) (H : Type) (enc : TypeId × Value → H) :
    ReturnsInHanded {} Yba.checked os 3 .any (Rows.lawS3141ADigitsSpec.pre6 enc Yba.prog Yba.f3 Rows.lawS3141ADigitsRow.domain false) (Rows.lawS3141ADigitsSpec.post enc Yba.prog Yba.f3 false true false false) := by
  refine returnsInHanded_of_change (C := Yba.checked) own started (by kernel_rfl) Yba.func3
    (ChangeSpec.witness6 (enc := enc) (C := Yba.checked) false ⟨#[], #[.slice none 0 0, .int .u16 0], []⟩ 8 (by kernel_rfl) (by kernel_rfl) (by kernel_rfl) (by kernel_rfl)) ?_
  intro W base args ds gs before hval0 hW hcnd _
  have hval : ∀ (j : Nat) t v, Yba.f3.params[j]? = some t → args[j]? = some v → Value.okWide Yba.prog W .any base t v := hval0
  have hW' := hW
  obtain ⟨p, q, hA0, hV, rfl, hfz, hnd⟩ := hW
  have hA : DataW.TrodAll enc Yba.prog W 0 (fun _ => true) true Yba.f3.params.toList args.toList ds p := hA0
  rw [Yba.params3] at hA hval
  obtain ⟨v0, vs0, d0, ds0, p0, q0, hargs, rfl, rfl, h0, r0⟩ := trodAll_cons hA
  obtain ⟨v1, vs1, d1, ds1, p1, q1, rfl, rfl, rfl, h1, r1⟩ := trodAll_cons r0
  obtain ⟨rfl, rfl, rfl⟩ := trodAll_nil r1
  obtain rfl : args = #[v0, v1] := by cases args; simp_all
  obtain ⟨rfl, rfl⟩ := trodVars_none hV
  obtain ⟨a0, len0, cap0, rfl⟩ := okWide_slice Yba.underlying22 (hval 0 22 v0 rfl rfl)
  have k0 := h0
  have lt0 : ∀ x ∈ p0, x.block < W.heap.size := by obtain ⟨m, hm⟩ := k0; exact DataW.trod_lt m _ _ _ hm
  obtain ⟨z0, w0⟩ : ∃ zs, IsRow .u8 W a0 len0 cap0 zs := by
    obtain ⟨fuel, hf⟩ := h0
    rcases open_ints Yba.underlying22 Yba.underlying5 (by kernel_rfl) hf with ⟨hcs, _⟩ | ⟨x, l, c, zs, hcs, _, hl, hm, hz, _, hcell, hwz⟩
    · simp [Value.cells] at hcs
      obtain ⟨rfl, rfl, rfl⟩ := hcs
      exact ⟨[], .inl ⟨rfl, rfl, rfl, rfl⟩⟩
    · simp [Value.cells] at hcs
      obtain ⟨rfl, rfl, rfl⟩ := hcs
      exact ⟨zs, .inr ⟨_, rfl, hl, hm, by simpa using hz, hcell, hwz⟩⟩
  obtain ⟨a1, rfl, rfl, rfl, w1⟩ := open_int Yba.underlying23 (hval 1 23 v1 rfl rfl) h1
  clear hA0 hval0
  refine (walk a0 len0 cap0 z0 a1 W w0 w1).mono fun e W' ⟨he, bel⟩ => ?_
  subst he
  exact ⟨_, rfl, _, _, _, [], _, [], hW', trodAll_mk1 (shut_bool Yba.underlying4 _), (trodAll_cons_mk (Below.trod laidOut (by kernel_rfl) (of_decide_eq_true (by kernel_rfl)) k0 bel lt0) (trodAll_cons_mk (shut_int Yba.underlying23 w1) trodAll_mk0)), rfl, bel.frame _, fun h => by cases h⟩

theorem over : Rows.lawS3141ADigitsRow.holds Yba.pinned (OpenSpec.ofChange Rows.lawS3141ADigitsSpec) :=
  OpenClaim.holds_of_wide 3 Yba.f3 rfl rfl rfl rfl rfl rfl rfl ⟨rfl, rfl, rfl, rfl, rfl⟩ rfl rfl rfl rfl rfl (by kernel_rfl) Yba.func3 (by kernel_rfl)
    (of_decide_eq_true (by kernel_rfl)) (by unfold Func.isWrapper; first | (rw [if_pos (by decide +kernel)]; kernel_rfl) | (rw [if_neg (by decide +kernel)]; exact ⟨rfl, rfl⟩))
    (fun os started H enc _ => lifted os started H enc)

/-- ████ THE STATEMENT ████ -/
theorem proved : Rows.LawS3141ADigitsSaid := over
end Go.Proofs.Ybulkbmai.lawS3141ADigits
namespace Go.Proofs.Ybulkbmai
/-- THE STATEMENT, by a short name. -/
theorem lawS3141ADigits_proved : Rows.LawS3141ADigitsSaid := lawS3141ADigits.proved
#print axioms lawS3141ADigits_proved
end Go.Proofs.Ybulkbmai
