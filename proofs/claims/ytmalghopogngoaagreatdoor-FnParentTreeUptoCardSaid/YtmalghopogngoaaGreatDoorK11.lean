/- A part of the proof that the parent of a node below the root is the node right above it (laws.FnParentTree), for all inputs of bulk at most 1048576 and the listed variables as the text lays them: part 11 of 16. -/
import Derived.Test.YtmalghopogngoaaGreatDoorK10
import Derived.ReadAgain
import Derived.ChangeSame
namespace Go.Proofs.YtmalghopogngoaaGreatDoor
open Go Go.ChangeShapes Go.WideShapes Go.RowKit MW
theorem kids_all : Kids Tryz.prog (· < Tryz.prog.types.size) := kids_rows (by kernel_rfl) (by kernel_rfl)
theorem full_all : ∀ t e, t < Tryz.prog.types.size → Tryz.prog.underlying t = some (.slice e) → 0 < Tryz.prog.cellsOf e := slices_full_of Tryz.prog (by kernel_rfl)
theorem types_lt : ∀ t ∈ Tryz.f3.params.toList, t < Tryz.prog.types.size := by
 have h : ([24, 3].all fun t => Nat.blt t Tryz.prog.types.size) = true := by kernel_rfl
 intro t ht
 rw [Tryz.params3] at ht
 have := List.all_eq_true.1 h t ht
 exact Nat.le_of_ble_eq_true this
theorem kept_of {W W' : World} {F : Nat → Prop} (hF : ∀ b, ¬ F b) (h : Keep F W W') (may : MemPlace → Prop) : W.keptBut W' may := by
 refine ⟨h.os, h.output, fun i hi => ?_⟩
 rw [h.block i hi (hF i)]
 cases W.heap[i]? with
 | none => rfl
 | some o =>
  cases o with
  | cells c t fr => exact ⟨rfl, rfl, rfl, fun _ _ => rfl⟩
  | map es clock => exact .inr ⟨rfl, rfl⟩
  | _ => rfl
theorem same_of {W W' : World} {F : Nat → Prop} (hF : ∀ b, ¬ F b) (h : Keep F W W') (p : MemPlace) (hp : p.block < W.heap.size) : W.sameAt W' p := by
 cases p with
 | cell b o =>
  show W'.cell? ⟨b, o, none⟩ = W.cell? ⟨b, o, none⟩
  unfold World.cell?
  dsimp only
  rw [h.block b hp (hF b)]
 | map b => exact h.block b hp (hF b)
section
variable {H : Type} {enc : TypeId × Value → H}
theorem all_carry {w w' : World} {base : Nat} {sp : Nat → Bool} {held : Bool} : ∀ {ts : List TypeId} {vs : List Value} {ds : List (DataW H)} {ps : List MemPlace}, DataW.TrodAll enc Tryz.prog w base sp held ts vs ds ps → (∀ p ∈ ps, w.sameAt w' p) → DataW.TrodAll enc Tryz.prog w' base sp held ts vs ds ps
 | [], [], [], _, h, _ => h
 | _ :: _, _ :: _, _ :: _, _, ⟨p, q, ⟨n, hn⟩, h2, e⟩, hs => ⟨p, q, ⟨n, DataW.trod_carry n _ _ _ hn fun x hx => hs x (by rw [e]; exact List.mem_append_left _ hx)⟩, all_carry h2 fun x hx => hs x (by rw [e]; exact List.mem_append_right _ hx), e⟩
end
set_option maxRecDepth 100000 in
theorem contract (H : Type) (enc : TypeId × Value → H) (W : World) (base : Nat) (args : Array Value) (ds gs : List (DataW H)) (before : List MemPlace)
  (hval : ∀ (j : Nat) t v, Tryz.f3.params[j]? = some t → args[j]? = some v → Value.okWide Tryz.prog W .any base t v)
  (hW : DataW.Whole enc Tryz.prog Tryz.f3.params.toList Rows.fnParentTreeSpec.vars false W args.toList ds gs before) (hb : Rows.uptoSmall H (ds ++ gs) = true) (hL : laidMetH Tryz.prog Rows.fnParentTreeUptoRow.laid W) :
  Calls Tryz.prog 3 args W fun e W' => ∃ v, e = .returned v ∧ Rows.fnParentTreeSpec.post enc Tryz.prog Tryz.f3 false true false false W args v W' := by
 have hW' := hW
 obtain ⟨p, q, hA0, hV, rfl, hfz, hnd⟩ := hW
 have hA : DataW.TrodAll enc Tryz.prog W 0 (fun _ => true) true Tryz.f3.params.toList args.toList ds p := hA0
 rw [Tryz.params3] at hA hval
 obtain ⟨v0, vs0, d0, ds0, p0, q0, hargs, rfl, rfl, h0, r0⟩ := trodAll_cons hA
 obtain ⟨v1, vs1, d1, ds1, p1, q1, rfl, rfl, rfl, h1, r1⟩ := trodAll_cons r0
 obtain ⟨rfl, rfl, rfl⟩ := trodAll_nil r1
 obtain rfl : args = #[v0, v1] := by cases args; simp_all
 obtain ⟨rfl, rfl⟩ := trodVars_none hV
 have hp1 : (#[24, 3] : Array TypeId)[1]? = some 3 := rfl
 have hp0 : (#[24, 3] : Array TypeId)[0]? = some 24 := rfl
 obtain ⟨hv1, hv0⟩ : Value.okWide Tryz.prog W .any base 3 v1 ∧ Value.okWide Tryz.prog W .any base 24 v0 := by
  generalize Value.okWide Tryz.prog W Reach.any base = g at hval ⊢
  exact ⟨hval 1 3 v1 hp1 rfl, hval 0 24 v0 hp0 rfl⟩
 obtain ⟨at_, rfl, rfl, rfl, wat⟩ := open_int Tryz.underlying3 hv1 h1
 obtain ⟨cs, rfl, hcs⟩ := okWide_struct Tryz.underlying24 hv0
 obtain ⟨fuel, hf⟩ := h0
 obtain ⟨tt, ht1, hR, hS⟩ := open_tt fuel _ _ hf
 have hb : Rows.uptoBulkAll ([d0, DataW.lit (.int .i64 at_)] ++ []) ≤ 1048576 := of_decide_eq_true hb
 simp only [List.append_nil, Rows.uptoBulkAll] at hb
 have hS := hS (Nat.le_trans (Nat.le_add_right _ _) hb)
 have hcs2 : cs = mkA 6 (tc tt.t) := by
  have e1 : cs.toList = tl tt.t := ht1
  have e2 : cs = (tl tt.t).toArray := by rw [← e1]
  rw [e2]
  exact (mkA_cl (tl tt.t)).symm
 subst hcs2
 simp only [List.append_nil] at hW' hA0
 have hlt := hW'.lt
 refine Calls.mono (c_Fn c_ToNumber c_ParseBool c_Known c_SignedOK c_MayWord tt at_ W (gp_of hL) hR hS) ?_
 rintro e W' ⟨v, rfl, rfl, hk⟩
 have hF : ∀ b : Nat, ¬ (fun _ : Nat => False) b := fun _ h => h
 refine ⟨_, rfl, _, [], _, [], p0, [], hW', ?_, ?_, rfl, kept_of hF hk _, fun h => by cases h⟩
 ·
  exact trodAll_cons_mk (shut_bool Tryz.underlying4 _) trodAll_mk0
 ·
  refine DataW.TrodAll.respare kids_all full_all types_lt (all_carry hA0 fun x hx => same_of hF hk x (hlt x hx)) fun x hx => ?_
  exact decide_eq_true (hlt x hx)
end Go.Proofs.YtmalghopogngoaaGreatDoor
