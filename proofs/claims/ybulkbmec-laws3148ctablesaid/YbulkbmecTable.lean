/- The walk of 'LawS3148CTable' (func 4). -/
import Derived.Test.YbulkbmecKnown
import Derived.LoopTactic
import Derived.Below
namespace Go.Proofs.Ybulkbmec
open Go.RowKit
set_option linter.unusedVariables false

theorem table_walk (a0 : Int) (w : World) : Calls Yba.prog 4 #[.int .u8 a0] w fun e w' => e = .returned (.bool true) ∧ Grown w w' := by
  go_enter Yba.func4, Yba.ntmps4
  go_wp2_with (first
    | (go_at_call 10; refine (known_any a0 _).mono ?_; rintro e w' ⟨rfl, rfl⟩)
    | (go_at_call 11; refine (model_any a0 _).mono ?_; rintro e w1 ⟨rfl, hg⟩))
  go_ret
  exact ⟨rfl, hg⟩
end Go.Proofs.Ybulkbmec
