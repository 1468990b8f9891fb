/- A part of the proof that the parent of a node below the root is the node right above it (laws.FnParentTree), for all inputs of bulk at most 1048576 and the listed variables as the text lays them: part 15 of 16. -/
import Derived.Test.YtmalghopogngoaaGreatDoorK14
namespace Go.Proofs.YtmalghopogngoaaGreatDoor
open Go Go.ChangeShapes Go.WideShapes Go.RowKit MW
theorem said_upto : Rows.FnParentTreeUptoSaid :=
 OpenClaim.holds_of_cond 3 Tryz.f3 rfl rfl rfl rfl rfl rfl rfl ⟨rfl, rfl, rfl, rfl, rfl⟩ rfl rfl rfl rfl rfl (by kernel_rfl) Tryz.func3 row_facts
  (of_decide_eq_true (by kernel_rfl)) (by unfold Func.isWrapper; first | (rw [if_pos (by decide +kernel)]; kernel_rfl) | (rw [if_neg (by decide +kernel)]; exact ⟨rfl, rfl⟩))
  (fun os started H enc _ F => by rw [OpenClaim.pre_eq_preRow]; exact lifted_upto os started H enc F)
end Go.Proofs.YtmalghopogngoaaGreatDoor
