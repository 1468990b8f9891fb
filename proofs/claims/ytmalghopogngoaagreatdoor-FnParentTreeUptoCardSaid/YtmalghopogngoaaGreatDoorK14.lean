/- A part of the proof that the parent of a node below the root is the node right above it (laws.FnParentTree), for all inputs of bulk at most 1048576 and the listed variables as the text lays them: part 14 of 16. -/
import Derived.Test.YtmalghopogngoaaGreatDoorK13
namespace Go.Proofs.YtmalghopogngoaaGreatDoor
open Go Go.ChangeShapes Go.WideShapes Go.RowKit MW
theorem row_facts : joinedFacts Tryz.pinned.checked.prog 3 Tryz.f3 (Rows.OpenSpec.upto Rows.fnParentTreeSpec).bare Rows.fnParentTreeUptoRow = true := by kernel_rfl
end Go.Proofs.YtmalghopogngoaaGreatDoor
