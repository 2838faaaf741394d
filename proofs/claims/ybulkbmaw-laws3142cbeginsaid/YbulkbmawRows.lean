/-
  No cell of these rows narrows 'for every input' (looked for: loops, veiled, ifaces, maps, wideKeys, modest, calm, conditions, laid).
  DERIVED. THE GIVEN ROWS OF THIS SEAT. 4 by the template 'for every input the law returns true; each argument reads behind the call as it read before'; 0 by the template 'total and deterministic' (their statements: YbulkbmawTotals.lean).
  GIVEN WITH THE SEED: the statements are not yours to turn. If you find one false, say at which input.
  Laid BY PROGRAM, IN A SANDBOX (cutbox-rows.mjs): the forced cells as the released guide's own fill.sh prints them over the translation 3c0a30477c9e5407… (all of the seat's roots in one cut). By AI agents, Wed Nov 11 2026. No macro, syntax, notation, axiom, sorry.
-/
import Derived.Test.YbulkbmawChecked
import GoSem.Claim
import GoSem.ClaimJoined
import GoSem.ClaimMapViews
import Derived.JoinedTies
import Derived.KernelRfl
namespace Go.Proofs.Ybulkbmaw
/- THE CELL 'sum', in the pinned program and in every row, IS THE sha256 OF THE DUMP (.gsa) THAT YbulkbmawProg.lean LOADS. Nothing in Lean hashes anything: it is a label: what it is worth is what the hold of that sum in a sandbox is worth. -/
noncomputable def Yba.pinned : Pinned := { name := "ybulkbmaw", sum := "3c0a30477c9e54077ba99ad09a440e16220b608251f03ed44898a7cf653ca708", checked := Yba.checked }
namespace Rows
def none {H : Type} : Left H := { results := [], args := [] }

/-- 'murmurnet.LawS3142BAppends': WHATEVER THE INPUT: true; the input reads as it did. -/
def lawS3142BAppendsSpec : ChangeSpec := { name := "lawS3142BAppends", fn := fun _ => fun
  | [d1, d2, d3, d4, d5] => { results := [.lit (.bool true)], args := [d1, d2, d3, d4, d5] }
  | _ => none }
def lawS3142BAppendsRow : OpenClaim := { program := "ybulkbmaw", sum := "3c0a30477c9e54077ba99ad09a440e16220b608251f03ed44898a7cf653ca708", func := "example.com/murmurnet/murmurnet.LawS3142BAppends", spec := "lawS3142BAppends", apart := false }
def LawS3142BAppendsSaid : Prop := lawS3142BAppendsRow.holds Yba.pinned (OpenSpec.ofChange lawS3142BAppendsSpec)

/-- ITS FALSE NEIGHBOUR: 'it returns false'. Refute it at one input. -/
def lawS3142BAppendsWrong : ChangeSpec := { name := "lawS3142BAppends", fn := fun _ => fun
  | [d1, d2, d3, d4, d5] => { results := [.lit (.bool false)], args := [d1, d2, d3, d4, d5] }
  | _ => none }
def LawS3142BAppendsWrongFalsely : Prop := lawS3142BAppendsRow.holds Yba.pinned (OpenSpec.ofChange lawS3142BAppendsWrong)

/-- 'murmurnet.LawS3142BNilLog': WHATEVER THE INPUT: true; the input reads as it did. -/
def lawS3142BNilLogSpec : ChangeSpec := { name := "lawS3142BNilLog", fn := fun _ => fun
  | [d1, d2, d3, d4] => { results := [.lit (.bool true)], args := [d1, d2, d3, d4] }
  | _ => none }
def lawS3142BNilLogRow : OpenClaim := { program := "ybulkbmaw", sum := "3c0a30477c9e54077ba99ad09a440e16220b608251f03ed44898a7cf653ca708", func := "example.com/murmurnet/murmurnet.LawS3142BNilLog", spec := "lawS3142BNilLog", apart := false }
def LawS3142BNilLogSaid : Prop := lawS3142BNilLogRow.holds Yba.pinned (OpenSpec.ofChange lawS3142BNilLogSpec)

/-- ITS FALSE NEIGHBOUR: 'it returns false'. Refute it at one input. -/
def lawS3142BNilLogWrong : ChangeSpec := { name := "lawS3142BNilLog", fn := fun _ => fun
  | [d1, d2, d3, d4] => { results := [.lit (.bool false)], args := [d1, d2, d3, d4] }
  | _ => none }
def LawS3142BNilLogWrongFalsely : Prop := lawS3142BNilLogRow.holds Yba.pinned (OpenSpec.ofChange lawS3142BNilLogWrong)

/-- 'murmurnet.LawS3142BDeltas': WHATEVER THE INPUT: true; the input reads as it did. -/
def lawS3142BDeltasSpec : ChangeSpec := { name := "lawS3142BDeltas", fn := fun _ => fun
  | [d1, d2, d3, d4, d5] => { results := [.lit (.bool true)], args := [d1, d2, d3, d4, d5] }
  | _ => none }
def lawS3142BDeltasRow : OpenClaim := { program := "ybulkbmaw", sum := "3c0a30477c9e54077ba99ad09a440e16220b608251f03ed44898a7cf653ca708", func := "example.com/murmurnet/murmurnet.LawS3142BDeltas", spec := "lawS3142BDeltas", apart := false }
def LawS3142BDeltasSaid : Prop := lawS3142BDeltasRow.holds Yba.pinned (OpenSpec.ofChange lawS3142BDeltasSpec)

/-- ITS FALSE NEIGHBOUR: 'it returns false'. Refute it at one input. -/
def lawS3142BDeltasWrong : ChangeSpec := { name := "lawS3142BDeltas", fn := fun _ => fun
  | [d1, d2, d3, d4, d5] => { results := [.lit (.bool false)], args := [d1, d2, d3, d4, d5] }
  | _ => none }
def LawS3142BDeltasWrongFalsely : Prop := lawS3142BDeltasRow.holds Yba.pinned (OpenSpec.ofChange lawS3142BDeltasWrong)

/-- 'murmurnet.LawS3142CBegin': WHATEVER THE INPUT: true; the input reads as it did. -/
def lawS3142CBeginSpec : ChangeSpec := { name := "lawS3142CBegin", fn := fun _ => fun
  | [d1, d2, d3, d4, d5, d6, d7, d8, d9, d10, d11] => { results := [.lit (.bool true)], args := [d1, d2, d3, d4, d5, d6, d7, d8, d9, d10, d11] }
  | _ => none }
def lawS3142CBeginRow : OpenClaim := { program := "ybulkbmaw", sum := "3c0a30477c9e54077ba99ad09a440e16220b608251f03ed44898a7cf653ca708", func := "example.com/murmurnet/murmurnet.LawS3142CBegin", spec := "lawS3142CBegin", apart := false }
def LawS3142CBeginSaid : Prop := lawS3142CBeginRow.holds Yba.pinned (OpenSpec.ofChange lawS3142CBeginSpec)

/-- ITS FALSE NEIGHBOUR: 'it returns false'. Refute it at one input. -/
def lawS3142CBeginWrong : ChangeSpec := { name := "lawS3142CBegin", fn := fun _ => fun
  | [d1, d2, d3, d4, d5, d6, d7, d8, d9, d10, d11] => { results := [.lit (.bool false)], args := [d1, d2, d3, d4, d5, d6, d7, d8, d9, d10, d11] }
  | _ => none }
def LawS3142CBeginWrongFalsely : Prop := lawS3142CBeginRow.holds Yba.pinned (OpenSpec.ofChange lawS3142CBeginWrong)

end Rows
end Go.Proofs.Ybulkbmaw
