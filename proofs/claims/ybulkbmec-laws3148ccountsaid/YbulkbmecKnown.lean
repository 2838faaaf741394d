/- The contracts of 'Type.known' (func 10) and of 'zzs3148cmodel' (func 11). -/
import Derived.Test.YbulkbmecProg
import Derived.WalkKit
import Derived.WalkSmall
import Derived.LoopN
namespace Go.Proofs.Ybulkbmec
open Go.RowKit
set_option linter.unusedVariables false

/-- The six known codes. -/
def kn (c : Int) : Bool := c == 0 || c == 1 || c == 2 || c == 64 || c == 128 || c == 129

theorem known_any (c : Int) (w : World) : Calls Yba.prog 10 #[.int .u8 c] w fun e w' => e = .returned (.bool (kn c)) ∧ w' = w := by
  by_cases h0 : c = 0
  · subst h0
    go_enter Yba.func10, Yba.ntmps10
    go_wp2
    go_ret
    exact ⟨rfl, rfl⟩
  by_cases h1 : c = 1
  · subst h1
    go_enter Yba.func10, Yba.ntmps10
    go_wp2
    go_ret
    exact ⟨rfl, rfl⟩
  by_cases h2 : c = 2
  · subst h2
    go_enter Yba.func10, Yba.ntmps10
    go_wp2
    go_ret
    exact ⟨rfl, rfl⟩
  by_cases h3 : c = 64
  · subst h3
    go_enter Yba.func10, Yba.ntmps10
    go_wp2
    go_ret
    exact ⟨rfl, rfl⟩
  by_cases h4 : c = 128
  · subst h4
    go_enter Yba.func10, Yba.ntmps10
    go_wp2
    go_ret
    exact ⟨rfl, rfl⟩
  by_cases h5 : c = 129
  · subst h5
    go_enter Yba.func10, Yba.ntmps10
    go_wp2
    go_ret
    exact ⟨rfl, rfl⟩
  have hk0 : kn c = false := by simp [kn, h0, h1, h2, h3, h4, h5]
  have hk : Hid (kn c = false) := hk0
  clear hk0
  go_enter Yba.func10, Yba.ntmps10
  go_wp2
  go_ret
  exact ⟨by rw [hk.out]; rfl, rfl⟩

theorem model_any (c : Int) (w : World) : Calls Yba.prog 11 #[.int .u8 c] w fun e w' => e = .returned (.bool (kn c)) ∧ Grown w w' := by
  by_cases h0 : c = 0
  · subst h0
    go_enter Yba.func11, Yba.ntmps11
    go_wp2
    refine wp_loop_rounds 1 ?_
    rw [rounds_succ]
    go_wp2
    go_ret
    exact ⟨rfl, (Grown.refl w).alloc _ _⟩
  by_cases h1 : c = 1
  · subst h1
    go_enter Yba.func11, Yba.ntmps11
    go_wp2
    refine wp_loop_rounds 2 ?_
    rw [rounds_succ]
    go_wp2
    rw [rounds_succ]
    go_wp2
    go_ret
    exact ⟨rfl, (Grown.refl w).alloc _ _⟩
  by_cases h2 : c = 2
  · subst h2
    go_enter Yba.func11, Yba.ntmps11
    go_wp2
    refine wp_loop_rounds 3 ?_
    rw [rounds_succ]
    go_wp2
    rw [rounds_succ]
    go_wp2
    rw [rounds_succ]
    go_wp2
    go_ret
    exact ⟨rfl, (Grown.refl w).alloc _ _⟩
  by_cases h3 : c = 64
  · subst h3
    go_enter Yba.func11, Yba.ntmps11
    go_wp2
    refine wp_loop_rounds 4 ?_
    rw [rounds_succ]
    go_wp2
    rw [rounds_succ]
    go_wp2
    rw [rounds_succ]
    go_wp2
    rw [rounds_succ]
    go_wp2
    go_ret
    exact ⟨rfl, (Grown.refl w).alloc _ _⟩
  by_cases h4 : c = 128
  · subst h4
    go_enter Yba.func11, Yba.ntmps11
    go_wp2
    refine wp_loop_rounds 5 ?_
    rw [rounds_succ]
    go_wp2
    rw [rounds_succ]
    go_wp2
    rw [rounds_succ]
    go_wp2
    rw [rounds_succ]
    go_wp2
    rw [rounds_succ]
    go_wp2
    go_ret
    exact ⟨rfl, (Grown.refl w).alloc _ _⟩
  by_cases h5 : c = 129
  · subst h5
    go_enter Yba.func11, Yba.ntmps11
    go_wp2
    refine wp_loop_rounds 6 ?_
    rw [rounds_succ]
    go_wp2
    rw [rounds_succ]
    go_wp2
    rw [rounds_succ]
    go_wp2
    rw [rounds_succ]
    go_wp2
    rw [rounds_succ]
    go_wp2
    rw [rounds_succ]
    go_wp2
    go_ret
    exact ⟨rfl, (Grown.refl w).alloc _ _⟩
  have hk0 : kn c = false := by simp [kn, h0, h1, h2, h3, h4, h5]
  have hk : Hid (kn c = false) := hk0
  clear hk0
  have g0 : ¬ (0 : Int) = c := fun h => h0 h.symm
  have g1 : ¬ (1 : Int) = c := fun h => h1 h.symm
  have g2 : ¬ (2 : Int) = c := fun h => h2 h.symm
  have g3 : ¬ (64 : Int) = c := fun h => h3 h.symm
  have g4 : ¬ (128 : Int) = c := fun h => h4 h.symm
  have g5 : ¬ (129 : Int) = c := fun h => h5 h.symm
  clear h0 h1 h2 h3 h4 h5
  go_enter Yba.func11, Yba.ntmps11
  go_wp2
  refine wp_loop_rounds 7 ?_
  rw [rounds_succ]
  go_wp2
  rw [rounds_succ]
  go_wp2
  rw [rounds_succ]
  go_wp2
  rw [rounds_succ]
  go_wp2
  rw [rounds_succ]
  go_wp2
  rw [rounds_succ]
  go_wp2
  rw [rounds_succ]
  go_wp2
  go_ret
  exact ⟨by rw [hk.out]; rfl, (Grown.refl w).alloc _ _⟩
end Go.Proofs.Ybulkbmec
