/- The parent of a node below the root of a tree that the library makes of a fitted tree is the node right above it: for the nodes of all trees as spec.Fit makes them, and all nodes but the root; where the arguments are together of bulk at most 1048576, and the listed package-level variables are as the program's text lays them. Here: the card. -/
import Derived.Test.YtmalghopogngoaaGreatDoorK15
namespace Go.Proofs.YtmalghopogngoaaGreatDoor
open Go Go.ChangeShapes Go.WideShapes Go.RowKit MW
theorem plain_fn (f : FuncId) (fn : Func) (hf : Tryz.pinned.checked.prog.funcNamed "given.example/pub-palinode/laws.FnParentTree" = some f) (hfn : Tryz.pinned.checked.prog.funcs[f]? = some fn) :
  true = Tryz.pinned.checked.prog.looks [] ∧ ∀ (j : Nat) t, fn.params[j]? = some t → Tryz.pinned.checked.prog.wantsStandIn t = false := by
 obtain rfl : f = 3 := Option.some.inj ((show Tryz.prog.funcNamed "given.example/pub-palinode/laws.FnParentTree" = some 3 by kernel_rfl).symm.trans hf) |>.symm
 obtain rfl : fn = Tryz.f3 := (Option.some.inj (Tryz.func3.symm.trans hfn)).symm
 refine ⟨by kernel_rfl, fun j t ht => ?_⟩
 rw [Tryz.params3] at ht
 have hm : t ∈ [24, 3] := by simpa using Array.mem_of_getElem? ht
 have hall : ([24, 3].all fun u => !Tryz.prog.wantsStandIn u) = true := by kernel_rfl
 have h1 := List.all_eq_true.1 hall t hm
 exact (show Tryz.prog.wantsStandIn t = false by simpa using h1)
theorem fnParentTree_holds : Rows.FnParentTreeUptoCardSaid :=
 Claim7.holds_tied_plain_at .later [] _ _ _ _ said_upto (fun _ h => by cases h) (by kernel_rfl) (fun _ h => by cases h) fnParentTreeUpto_row_tie rfl ⟨rfl, rfl⟩ (by kernel_rfl) rfl plain_fn (by kernel_rfl)
#print axioms fnParentTree_holds
end Go.Proofs.YtmalghopogngoaaGreatDoor
