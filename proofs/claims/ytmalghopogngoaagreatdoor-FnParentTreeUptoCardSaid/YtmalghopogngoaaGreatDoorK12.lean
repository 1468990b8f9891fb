/- A part of the proof that the parent of a node below the root is the node right above it (laws.FnParentTree), for all inputs of bulk at most 1048576 and the listed variables as the text lays them: part 12 of 16. -/
import Derived.Test.YtmalghopogngoaaGreatDoorK11
import Derived.Test.YtmalghopogngoaaGreatDoorCards
import Derived.Test.YtmalghopogngoaaGreatDoorTie
import Derived.Deep.DeepHandedRow
import Derived.Lay
namespace Go.Proofs.YtmalghopogngoaaGreatDoor
open Go Go.ChangeShapes Go.WideShapes Go.RowKit MW
theorem own_none : ownKnob Tryz.prog.godebug = none := by kernel_rfl
/-- The arguments of the input that fits: a bare tree, and nought. -/
def wArgs : Array Value := #[.agg #[.int .i64 0, .string ⟨#[]⟩, .string ⟨#[]⟩, .string ⟨#[]⟩, .int .i64 0, .slice none 0 0], .int .i64 0]
noncomputable def wWorld (os : Os) : World := World.laidAll Tryz.prog os Rows.fnParentTreeUptoRow.laid
theorem w_laid (os : Os) : laidMetH Tryz.prog Rows.fnParentTreeUptoRow.laid ((wWorld os).forCall (fun _ _ => 0) ⟨#[], wArgs, []⟩).memory := by
 rw [MakeChecks.laidMetH_plain _ _ _ (by kernel_rfl)]
 exact laidMet_laidAll _ (by kernel_rfl) (by kernel_rfl)
theorem w_reads (os : Os) {H : Type} (enc : TypeId × Value → H) : DataW.whole enc Tryz.prog ((wWorld os).forCall (fun _ _ => 0) ⟨#[], wArgs, []⟩).memory Tryz.f3.params.toList Rows.fnParentTreeSpec.vars false wArgs.toList 8 = some ([.agg [.lit (.int .i64 0), .lit (.string []), .lit (.string []), .lit (.string []), .lit (.int .i64 0), .nil], .lit (.int .i64 0)], [], []) := by kernel_rfl
theorem w_shaped (os : Os) : ((wWorld os).forCall (fun _ _ => 0) ⟨#[], wArgs, []⟩).Shaped Tryz.checked.prog := World.shaped_of_ZipB (by kernel_rfl) (by kernel_rfl)
theorem w_ok (os : Os) : Input.okWideB Tryz.checked.prog ((wWorld os).forCall (fun _ _ => 0) ⟨#[], wArgs, []⟩) 3 ⟨#[], wArgs, []⟩ = true := by kernel_rfl
end Go.Proofs.YtmalghopogngoaaGreatDoor
