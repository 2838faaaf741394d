/-
  No cell of these rows narrows 'for every input' (looked for: loops, veiled, ifaces, maps, wideKeys, modest, calm, conditions, laid).
  DERIVED. THE GIVEN ROWS OF THIS SEAT. 3 by the template 'for every input the law returns true; each argument reads behind the call as it read before'; 0 by the template 'total and deterministic' (their statements: YbulkbmecTotals.lean).
  GIVEN WITH THE SEED: the statements are not yours to turn. If you find one false, say at which input.
  Laid BY PROGRAM, IN A SANDBOX (cutbox-rows.mjs): the forced cells as the released guide's own fill.sh prints them over the translation f786df5d097848a5… (all of the seat's roots in one cut). By AI agents, Wed Nov 11 2026. No macro, syntax, notation, axiom, sorry.
-/
import Derived.Test.YbulkbmecChecked
import GoSem.Claim
import GoSem.ClaimJoined
import GoSem.ClaimMapViews
import Derived.JoinedTies
import Derived.KernelRfl
namespace Go.Proofs.Ybulkbmec
/- THE CELL 'sum', in the pinned program and in every row, IS THE sha256 OF THE DUMP (.gsa) THAT YbulkbmecProg.lean LOADS. Nothing in Lean hashes anything: it is a label: what it is worth is what the hold of that sum in a sandbox is worth. -/
noncomputable def Yba.pinned : Pinned := { name := "ybulkbmec", sum := "f786df5d097848a54c08e3c6379d63c4dd847f8610dc81f93bb7cce9501b6542", checked := Yba.checked }
namespace Rows
def none {H : Type} : Left H := { results := [], args := [] }

/-- 'hopweave.LawS3148BPass': WHATEVER THE INPUT: true; the input reads as it did. -/
def lawS3148BPassSpec : ChangeSpec := { name := "lawS3148BPass", fn := fun _ => fun
  | [d1, d2, d3, d4, d5, d6, d7, d8, d9, d10, d11, d12] => { results := [.lit (.bool true)], args := [d1, d2, d3, d4, d5, d6, d7, d8, d9, d10, d11, d12] }
  | _ => none }
def lawS3148BPassRow : OpenClaim := { program := "ybulkbmec", sum := "f786df5d097848a54c08e3c6379d63c4dd847f8610dc81f93bb7cce9501b6542", func := "example.com/hopweave/hopweave.LawS3148BPass", spec := "lawS3148BPass", unfollowed := true, recurses := true, apart := false }
def LawS3148BPassSaid : Prop := lawS3148BPassRow.holds Yba.pinned (OpenSpec.ofChange lawS3148BPassSpec)

/-- ITS FALSE NEIGHBOUR: 'it returns false'. Refute it at one input. -/
def lawS3148BPassWrong : ChangeSpec := { name := "lawS3148BPass", fn := fun _ => fun
  | [d1, d2, d3, d4, d5, d6, d7, d8, d9, d10, d11, d12] => { results := [.lit (.bool false)], args := [d1, d2, d3, d4, d5, d6, d7, d8, d9, d10, d11, d12] }
  | _ => none }
def LawS3148BPassWrongFalsely : Prop := lawS3148BPassRow.holds Yba.pinned (OpenSpec.ofChange lawS3148BPassWrong)

/-- 'gnutella.LawS3148CTable': WHATEVER THE INPUT: true; the input reads as it did. -/
def lawS3148CTableSpec : ChangeSpec := { name := "lawS3148CTable", fn := fun _ => fun
  | [d] => { results := [.lit (.bool true)], args := [d] }
  | _ => none }
def lawS3148CTableRow : OpenClaim := { program := "ybulkbmec", sum := "f786df5d097848a54c08e3c6379d63c4dd847f8610dc81f93bb7cce9501b6542", func := "example.com/hopweave/hopweave/internal/gnutella.LawS3148CTable", spec := "lawS3148CTable", apart := false }
def LawS3148CTableSaid : Prop := lawS3148CTableRow.holds Yba.pinned (OpenSpec.ofChange lawS3148CTableSpec)

/-- ITS FALSE NEIGHBOUR: 'it returns false'. Refute it at one input. -/
def lawS3148CTableWrong : ChangeSpec := { name := "lawS3148CTable", fn := fun _ => fun
  | [d] => { results := [.lit (.bool false)], args := [d] }
  | _ => none }
def LawS3148CTableWrongFalsely : Prop := lawS3148CTableRow.holds Yba.pinned (OpenSpec.ofChange lawS3148CTableWrong)

/-- 'gnutella.LawS3148CCount': WHATEVER THE INPUT: true; the input reads as it did. -/
def lawS3148CCountSpec : ChangeSpec := { name := "lawS3148CCount", fn := fun _ => fun
  | [] => { results := [.lit (.bool true)], args := [] }
  | _ => none }
def lawS3148CCountRow : OpenClaim := { program := "ybulkbmec", sum := "f786df5d097848a54c08e3c6379d63c4dd847f8610dc81f93bb7cce9501b6542", func := "example.com/hopweave/hopweave/internal/gnutella.LawS3148CCount", spec := "lawS3148CCount", apart := false }
def LawS3148CCountSaid : Prop := lawS3148CCountRow.holds Yba.pinned (OpenSpec.ofChange lawS3148CCountSpec)

/-- ITS FALSE NEIGHBOUR: 'it returns false'. Refute it at one input. -/
def lawS3148CCountWrong : ChangeSpec := { name := "lawS3148CCount", fn := fun _ => fun
  | [] => { results := [.lit (.bool false)], args := [] }
  | _ => none }
def LawS3148CCountWrongFalsely : Prop := lawS3148CCountRow.holds Yba.pinned (OpenSpec.ofChange lawS3148CCountWrong)

end Rows
end Go.Proofs.Ybulkbmec
