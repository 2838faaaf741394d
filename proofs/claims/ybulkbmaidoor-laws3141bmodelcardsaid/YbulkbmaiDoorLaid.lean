/- What the rows' condition on the listed variables gives the walks: strconv.ErrSyntax holds an interface value. And: the heap that the door's own run leaves meets the condition (the witness). -/
import Derived.Test.YbulkbmaiDoorRows
import Derived.LaidLaws
import Derived.Stop.LaidErr
import Derived.LaidMore
import Derived.Stop.Joined
import Derived.MakeChecks
namespace Go.Proofs.YbulkbmaiDoor
open Go.ChangeShapes Go.RowKit

theorem own : ownKnob Ybad.prog.godebug = none := by kernel_rfl
theorem laidOut : laidOutB Ybad.prog = true := by kernel_rfl
theorem gSyntax : Ybad.prog.globalNamed "strconv.ErrSyntax" = some 0 := by kernel_rfl
theorem tSyntax : (Ybad.prog.globals[0]?).map (·.type) = some 35 := by kernel_rfl

theorem err_cell {W : World} (h : laidMetH Ybad.prog Rows.lawS3141BRoundRow.laid W) : ∃ ev, W.cell? ⟨0, 0, none⟩ = some ev ∧ (ev = .nilIface ∨ ∃ te pe, ev = .iface te pe) := by
  rw [MakeChecks.laidMetH_plain _ _ _ (by kernel_rfl)] at h
  have h4 := h.tail.tail.tail.tail
  obtain ⟨ps, ⟨g, t, cs, fuel, p, q, hg, ht, hv, hd, _, _⟩, _, _⟩ := h4
  obtain rfl := Option.some.inj (gSyntax.symm.trans hg)
  obtain rfl := Option.some.inj (tSyntax.symm.trans ht)
  obtain ⟨fuel', u, v, hcs, _, _⟩ := iface_of_trod Ybad.underlying35 hd
  refine ⟨.iface u v, ?_, .inr ⟨u, v, rfl⟩⟩
  have := World.var?_cell hg hv 0
  rw [Array.eq_one_of_toList hcs] at this
  simpa using this

/-- The door's own heap meets the condition. -/
theorem door_met (os : Os) (args : Array Value) : laidMetH Ybad.prog Rows.lawS3141BRoundRow.laid ((World.doorLaid Ybad.prog 62 os).forCall (fun _ _ => 0) ⟨#[], args, []⟩).memory :=
  laidMetH_of_parts3 (fuel := 8) (laidMet_of_run' 8 (by kernel_rfl) (by kernel_rfl)) (by kernel_rfl) (by kernel_rfl)
end Go.Proofs.YbulkbmaiDoor
