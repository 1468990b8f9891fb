/- A part of the proof that the parent of a node below the root is the node right above it (laws.FnParentTree), for all inputs of bulk at most 1048576 and the listed variables as the text lays them: part 13 of 16. -/
import Derived.Test.YtmalghopogngoaaGreatDoorK12
namespace Go.Proofs.YtmalghopogngoaaGreatDoor
open Go Go.ChangeShapes Go.WideShapes Go.RowKit MW
set_option maxRecDepth 100000 in
theorem lifted_upto (os : Os) (started : os.Started) (H : Type) (enc : TypeId × Value → H) (F : Stop.Interp) :
  ReturnsInHanded {} Tryz.checked os 3 .any ((Rows.OpenSpec.upto Rows.fnParentTreeSpec).preRow enc Tryz.prog Tryz.f3 Rows.fnParentTreeUptoRow.domain false Rows.fnParentTreeUptoRow.laid) (((Rows.OpenSpec.upto Rows.fnParentTreeSpec).at F).post enc Tryz.prog Tryz.f3 false true false false) := by
 refine returnsInHanded_of_row (C := Tryz.checked) (s := Rows.OpenSpec.upto Rows.fnParentTreeSpec) own_none started (by kernel_rfl) Tryz.func3
  ⟨wWorld os, fun _ _ => 0, ⟨#[], wArgs, []⟩, World.laidAll_os _ _ _, w_shaped os, (Input.okWide_of_okWideB (base := 0) (w_ok os)).1, (Input.okWide_of_okWideB (w_ok os)).2,
   OpenSpec.preRow_of_cond 8 (w_reads os enc) (by kernel_rfl) (fun k hk => by cases hk; kernel_rfl) (by kernel_rfl) (w_laid os), by
    simp only [Assume.holds]
    exact ⟨by simp, by simp, fun _ => Modest.zero, by simp, by simp⟩⟩ ?_
 intro W base args ds gs before hval hW _ hcond _ hL _ _
 exact contract H enc W base args ds gs before hval hW (hcond _ rfl) hL
end Go.Proofs.YtmalghopogngoaaGreatDoor
