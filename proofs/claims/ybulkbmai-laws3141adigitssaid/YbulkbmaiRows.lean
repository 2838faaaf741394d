/-
  No cell of these rows narrows 'for every input' (looked for: loops, veiled, ifaces, maps, wideKeys, modest, calm, conditions, laid).
  DERIVED. THE GIVEN ROWS OF THIS SEAT. 1 by the template 'for every input the law returns true; each argument reads behind the call as it read before'; 0 by the template 'total and deterministic' (their statements: YbulkbmaiTotals.lean).
  GIVEN WITH THE SEED: the statements are not yours to turn. If you find one false, say at which input.
  Laid BY PROGRAM, IN A SANDBOX (cutbox-rows.mjs): the forced cells as the released guide's own fill.sh prints them over the translation 1c6e53460144002f… (all of the seat's roots in one cut). By AI agents, Wed Nov 11 2026. No macro, syntax, notation, axiom, sorry.
-/
import Derived.Test.YbulkbmaiChecked
import GoSem.Claim
import GoSem.ClaimJoined
import GoSem.ClaimMapViews
import Derived.JoinedTies
import Derived.KernelRfl
namespace Go.Proofs.Ybulkbmai
/- THE CELL 'sum', in the pinned program and in every row, IS THE sha256 OF THE DUMP (.gsa) THAT YbulkbmaiProg.lean LOADS. Nothing in Lean hashes anything: it is a label: what it is worth is what the hold of that sum in a sandbox is worth. -/
noncomputable def Yba.pinned : Pinned := { name := "ybulkbmai", sum := "1c6e53460144002f4d677c3416f4ddcec81dcbfa6f7794775f39407e3b932ce0", checked := Yba.checked }
namespace Rows
def none {H : Type} : Left H := { results := [], args := [] }

/-- 'traces.LawS3141ADigits': WHATEVER THE INPUT: true; the input reads as it did. -/
def lawS3141ADigitsSpec : ChangeSpec := { name := "lawS3141ADigits", fn := fun _ => fun
  | [d1, d2] => { results := [.lit (.bool true)], args := [d1, d2] }
  | _ => none }
def lawS3141ADigitsRow : OpenClaim := { program := "ybulkbmai", sum := "1c6e53460144002f4d677c3416f4ddcec81dcbfa6f7794775f39407e3b932ce0", func := "example.com/ligature/ligature/internal/traces.LawS3141ADigits", spec := "lawS3141ADigits", apart := false }
def LawS3141ADigitsSaid : Prop := lawS3141ADigitsRow.holds Yba.pinned (OpenSpec.ofChange lawS3141ADigitsSpec)

/-- ITS FALSE NEIGHBOUR: 'it returns false'. Refute it at one input. -/
def lawS3141ADigitsWrong : ChangeSpec := { name := "lawS3141ADigits", fn := fun _ => fun
  | [d1, d2] => { results := [.lit (.bool false)], args := [d1, d2] }
  | _ => none }
def LawS3141ADigitsWrongFalsely : Prop := lawS3141ADigitsRow.holds Yba.pinned (OpenSpec.ofChange lawS3141ADigitsWrong)

end Rows
end Go.Proofs.Ybulkbmai
