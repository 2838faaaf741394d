/- THE CONTRACT OF '(*jsonText).digits': from the offset on it counts the run of bytes 48 .. 57, and moves the offset past it. -/
import Derived.Test.YbulkbmaiProg
import Derived.WalkKit
import Derived.WalkSmall
import Derived.Deep.LoopGhost
import Derived.Deep.QuietTactic
import Derived.BigQuiet
namespace Go.Proofs.Ybulkbmai
open Go.RowKit

/-- 'c' is the length of the run of digits that begins at 'off' in the text f 0 .. f (n-1). -/
def IsRun (f : Nat → Int) (n off c : Nat) : Prop :=
  (∀ j, j < c → off + j < n ∧ 48 ≤ f (off + j) ∧ f (off + j) ≤ 57) ∧ (off + c < n → f (off + c) < 48 ∨ 57 < f (off + c))

theorem IsRun.unique {f : Nat → Int} {n off c d : Nat} (h : IsRun f n off c) (k : IsRun f n off d) : c = d := by
  rcases Nat.lt_trichotomy c d with hlt | he | hlt
  · have h1 := k.1 c hlt
    have h2 := h.2 h1.1
    omega
  · exact he
  · have h1 := h.1 d hlt
    have h2 := k.2 h1.1
    omega

set_option maxHeartbeats 1000000 in
theorem digits_any (b d n off : Nat) (f : Nat → Int) (w : World) (hdb : d < b) (hn : n ≤ 4096) (hoff : off ≤ n + 1)
    (h0 : w.cell? ⟨b, 0, none⟩ = some (.slice (some ⟨d, 0, none⟩) n n)) (h1 : w.cell? ⟨b, 1, none⟩ = some (.int .i64 (off : Int))) (hf : w.frozen? ⟨b, 1, none⟩ = false)
    (hc : ∀ j, j < n → w.cell? ⟨d, j, none⟩ = some (.int .u8 (f j))) :
    Calls Yba.prog 5 #[.pointer (some ⟨b, 0, none⟩)] w fun e w' => ∃ c : Nat, e = .returned (.int .i64 (c : Int)) ∧ IsRun f n off c ∧ off + c ≤ n + 1 ∧ Below b w w' ∧
      w'.cell? ⟨b, 0, none⟩ = some (.slice (some ⟨d, 0, none⟩) n n) ∧ w'.cell? ⟨b, 1, none⟩ = some (.int .i64 ((off + c : Nat) : Int)) := by
  go_enter Yba.func5, Yba.ntmps5
  go_wp2
  go_loopg [] (n + 1 - off) (fun g wr => ∃ c : Nat, g = n + 1 - (off + c) ∧ off + c ≤ n + 1 ∧ (∀ j, j < c → off + j < n ∧ 48 ≤ f (off + j) ∧ f (off + j) ≤ 57) ∧ Below b w wr ∧
      wr.cell? ⟨b, 0, none⟩ = some (.slice (some ⟨d, 0, none⟩) n n) ∧ wr.cell? ⟨b, 1, none⟩ = some (.int .i64 ((off + c : Nat) : Int)) ∧ wr.frozen? ⟨b, 1, none⟩ = false)
  case atStart => exact ⟨0, by omega, by omega, by omega, Below.refl _ _, h0, h1, hf⟩
  case round =>
    obtain ⟨c, hg, hcn, hrun, hbel, k0, k1, kf⟩ := hrel
    obtain ⟨m, hm⟩ : ∃ m, m = off + c := ⟨_, rfl⟩
    have HR : Hid (gk = n + 1 - (off + c) ∧ m = off + c ∧ (∀ j, j < c → off + j < n ∧ 48 ≤ f (off + j) ∧ f (off + j) ≤ 57)) := ⟨hg, hm, hrun⟩
    rw [← hm] at k1 hcn
    clear hg hm hrun h0 h1 hf
    have hcw : ∀ j, j < n → wr.cell? ⟨d, j, none⟩ = some (.int .u8 (f j)) := fun j hj => (hbel.cell (p := ⟨d, j, none⟩) hdb).trans (hc j hj)
    clear hc
    by_cases hlt : m < n
    · have hce := hcw m hlt
      clear hcw
      obtain ⟨x, hx⟩ : ∃ x, x = f m := ⟨_, rfl⟩
      rw [← hx] at hce
      have HX : Hid (x = f m) := hx
      clear hx
      have hl : (m : Int) < (n : Int) := by omega
      by_cases ha : 48 ≤ x
      · by_cases hb : x ≤ 57
        · go_wp2
          go_quiet (fail)
          go_wp2
          obtain ⟨hg, hm, hrun⟩ := HR.out
          have hfx := HX.out
          go_roundg (n + 1 - (off + (c + 1)))
          case measure => omega
          case rel =>
            refine ⟨c + 1, rfl, by omega, ?_, ?_, ?_, ?_, ?_⟩
            · intro j hj
              by_cases e : j = c
              · subst e
                rw [← hm, ← hfx]
                exact ⟨hlt, ha, hb⟩
              · exact hrun j (by omega)
            · exact (below_drewN hbel _).setCell (Nat.le_refl _) _
            · exact (World.cell?_setCell_other _ _ _ _ (by simp)).trans k0
            · refine (World.cell?_setCell_same (wr.drewN nq) _ _ (u := .int .i64 (m : Int)) k1).trans ?_
              rw [hm]
              exact congrArg some (by go_num)
            · rw [World.frozen?_setCell]
              exact kf
        · have hd : decide (x ≤ 57) = false := decide_eq_false hb
          go_wp2
          go_quiet (fail)
          go_wp2
          go_ret
          obtain ⟨hg, hm, hrun⟩ := HR.out
          have hfx := HX.out
          exact ⟨c, by go_num, ⟨hrun, fun _ => by rw [← hm, ← hfx]; omega⟩, by omega, below_drewN hbel _, k0, by rw [← hm]; exact k1⟩
      · have hd : decide (48 ≤ x) = false := decide_eq_false ha
        go_wp2
        go_quiet (fail)
        go_wp2
        go_ret
        obtain ⟨hg, hm, hrun⟩ := HR.out
        have hfx := HX.out
        exact ⟨c, by go_num, ⟨hrun, fun _ => by rw [← hm, ← hfx]; omega⟩, by omega, below_drewN hbel _, k0, by rw [← hm]; exact k1⟩
    · have hd : decide ((m : Int) < (n : Int)) = false := decide_eq_false (by omega)
      go_wp2
      go_quiet (fail)
      go_wp2
      go_ret
      obtain ⟨hg, hm, hrun⟩ := HR.out
      exact ⟨c, by go_num, ⟨hrun, fun _ => by omega⟩, by omega, below_drewN hbel _, k0, by rw [← hm]; exact k1⟩
end Go.Proofs.Ybulkbmai
