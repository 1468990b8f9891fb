/- A part of the proof that the parent of a node below the root is the node right above it (laws.FnParentTree), for all inputs of bulk at most 1048576 and the listed variables as the text lays them: part 3 of 16. -/
import Derived.Test.YtmalghopogngoaaGreatDoorK2
set_option linter.unusedVariables false
set_option linter.unusedSimpArgs false
set_option maxRecDepth 4000
namespace Go.Proofs.YtmalghopogngoaaGreatDoor
open Go Go.RowKit MW
theorem c_bare2 {Γ : Glob} (n : NRec) (hk : n.kind = 2) (tb : Nat) (pb : Nat) (w : World) (hG : Γ.p w) (ht : w.heap[tb]? = some (.cells (mkA 9 (tokC n.typ n.text n.origin pb)) 71 (0, 0))) (hR : RepN w (.mk n [])) : Fresh Tryz.prog 19 [.agg (mkA 19 (nc n)), .pointer (some ⟨tb, 0, none⟩)] w (BuildR (.mk n [])) := by
 have hs := St.startNone w
 obtain ⟨kind, typ, value, text, origin, flow, pl, pc, po, kv⟩ := n
 obtain rfl : kind = 2 := hk
 refine calls_W (args := [_, _]) Tryz.func19 rfl Tryz.ntmps19 rfl ?_
 refine W_sr ?_
 refine k_box hs rfl rfl ?_
 intro b2 _ hs
 refine s_pu (p_assign rfl) rfl ?_
 refine WL_th ?_
 refine W_seq ?_
 refine W_sr ?_
 refine s_pu (p_field rfl) rfl ?_
 refine k_ld hs rfl .head rfl rfl ?_
 refine WL_th ?_
 refine W_block ?_
 refine W_sr ?_
 refine s_pu (p_eqI rfl rfl) rfl ?_
 refine s_pu (p_assign rfl) rfl ?_
 refine WL_th ?_
 refine W_false rfl ?_
 refine W_sr ?_
 refine s_pu (p_eqI rfl rfl) rfl ?_
 refine s_pu (p_assign rfl) rfl ?_
 refine WL_th ?_
 refine W_false rfl ?_
 refine W_sr ?_
 refine s_pu (p_eqI rfl rfl) rfl ?_
 refine s_pu (p_assign rfl) rfl ?_
 refine WL_th ?_
 refine W_false rfl ?_
 refine W_sr ?_
 refine s_pu (p_eqI rfl rfl) rfl ?_
 refine s_pu (p_assign rfl) rfl ?_
 refine WL_th ?_
 refine W_false rfl ?_
 refine W_sr ?_
 refine s_pu (p_eqI rfl rfl) rfl ?_
 refine s_pu (p_assign rfl) rfl ?_
 refine WL_th ?_
 refine W_forget (Ext.cd 1 rfl (Ext.cd 2 rfl (Ext.cd 15 rfl (Ext.cd 36 rfl (Ext.nil _))))) ?_
 refine W_false rfl ?_
 refine W_sr ?_
 refine s_pu (p_eqI rfl rfl) rfl ?_
 refine s_pu (p_assign rfl) rfl ?_
 refine WL_th ?_
 refine W_false rfl ?_
 refine W_sr ?_
 refine s_pu (p_eqI rfl rfl) rfl ?_
 refine s_pu (p_assign rfl) rfl ?_
 refine WL_th ?_
 refine W_false rfl ?_
 refine W_sr ?_
 refine s_pu (p_eqI rfl rfl) rfl ?_
 refine s_pu (p_assign rfl) rfl ?_
 refine WL_th ?_
 refine W_false rfl ?_
 refine W_sr ?_
 refine s_pu (p_eqI rfl rfl) rfl ?_
 refine s_pu (p_assign rfl) rfl ?_
 refine WL_th ?_
 refine W_false rfl ?_
 refine W_sr ?_
 refine s_pu (p_eqI rfl rfl) rfl ?_
 refine s_pu (p_assign rfl) rfl ?_
 refine WL_th ?_
 refine W_false rfl ?_
 refine W_sr ?_
 refine s_pu (p_eqI rfl rfl) rfl ?_
 refine s_pu (p_assign rfl) rfl ?_
 refine WL_th ?_
 refine W_forget (Ext.cd 1 rfl (Ext.cd 2 rfl (Ext.cd 15 rfl (Ext.cd 89 rfl (Ext.nil _))))) ?_
 refine W_false rfl ?_
 refine W_sr ?_
 refine s_pu (p_eqI rfl rfl) rfl ?_
 refine s_pu (p_assign rfl) rfl ?_
 refine WL_th ?_
 refine W_false rfl ?_
 refine W_sr ?_
 refine s_pu (p_eqI rfl rfl) rfl ?_
 refine s_pu (p_assign rfl) rfl ?_
 refine WL_th ?_
 refine W_false rfl ?_
 refine W_sr ?_
 refine s_pu (p_eqI rfl rfl) rfl ?_
 refine s_pu (p_assign rfl) rfl ?_
 refine WL_th ?_
 refine W_false rfl ?_
 refine W_sr ?_
 refine s_pu (p_eqI rfl rfl) rfl ?_
 refine s_pu (p_assign rfl) rfl ?_
 refine WL_th ?_
 refine W_false rfl ?_
 refine W_sr ?_
 refine s_pu (p_eqI rfl rfl) rfl ?_
 refine s_pu (p_assign rfl) rfl ?_
 refine WL_th ?_
 refine W_false rfl ?_
 refine W_sr ?_
 refine s_pu (p_eqI rfl rfl) rfl ?_
 refine s_pu (p_assign rfl) rfl ?_
 refine WL_th ?_
 refine W_forget (Ext.cd 1 rfl (Ext.cd 2 rfl (Ext.cd 15 rfl (Ext.cd 175 rfl (Ext.nil _))))) ?_
 refine W_false rfl ?_
 refine W_sr ?_
 refine s_pu (p_eqI rfl rfl) rfl ?_
 refine s_pu (p_assign rfl) rfl ?_
 refine WL_th ?_
 refine W_false rfl ?_
 refine W_skip ?_
 show W _ _ _ _ _ _
 refine W_sr ?_
 refine s_pu (p_move rfl) rfl ?_
 refine k_fresh (c_Null _ _) hs (.cons rfl .nil) rfl ?_
 rintro _ _ _ ⟨nb, bb, nf, ng, rfl, rfl, hf0, hg1, hC⟩ hs _
 refine s_pu (p_iface rfl) rfl ?_
 refine s_pu (p_assign rfl) rfl ?_
 refine WL_th ?_
 refine W_ret ?_
 refine ret_tmp (fn := Tryz.f19) rfl rfl ?_
 have hs := hs.first2.nilA
 have hs := hs.front .t2
 have hs := hs.front .t2
 have hs := hs.seal_node (T := 143) hf0 hg1 (fun w S => .leaf rfl (by decide))
 exact hs.fresh ⟨_, rfl, rfl, rfl, fun _ _ => rfl⟩
theorem c_bare3 {Γ : Glob} (hpb : ParseBoolOK) (n : NRec) (hT : BoolText n.text) (hk : n.kind = 3) (tb : Nat) (pb : Nat) (w : World) (hG : Γ.p w) (ht : w.heap[tb]? = some (.cells (mkA 9 (tokC n.typ n.text n.origin pb)) 71 (0, 0))) (hR : RepN w (.mk n [])) : Fresh Tryz.prog 19 [.agg (mkA 19 (nc n)), .pointer (some ⟨tb, 0, none⟩)] w (BuildR (.mk n [])) := by
 have hs := St.startNone w
 obtain ⟨kind, typ, value, text, origin, flow, pl, pc, po, kv⟩ := n
 obtain rfl : kind = 3 := hk
 refine calls_W (args := [_, _]) Tryz.func19 rfl Tryz.ntmps19 rfl ?_
 refine W_sr ?_
 refine k_box hs rfl rfl ?_
 intro b2 _ hs
 refine s_pu (p_assign rfl) rfl ?_
 refine WL_th ?_
 refine W_seq ?_
 refine W_sr ?_
 refine s_pu (p_field rfl) rfl ?_
 refine k_ld hs rfl .head rfl rfl ?_
 refine WL_th ?_
 refine W_block ?_
 refine W_sr ?_
 refine s_pu (p_eqI rfl rfl) rfl ?_
 refine s_pu (p_assign rfl) rfl ?_
 refine WL_th ?_
 refine W_false rfl ?_
 refine W_sr ?_
 refine s_pu (p_eqI rfl rfl) rfl ?_
 refine s_pu (p_assign rfl) rfl ?_
 refine WL_th ?_
 refine W_true rfl ?_
 refine W_sr ?_
 refine s_pu (p_move rfl) rfl ?_
 refine k_fresh (c_Bool hpb _ _ _ _ _ hT _ (hs.old ht)) hs (.cons rfl .nil) rfl ?_
 rintro _ _ _ ⟨nb, bb, nf, ng, rfl, rfl, hf0, hg1, hC⟩ hs _
 refine s_pu (p_iface rfl) rfl ?_
 refine s_pu (p_assign rfl) rfl ?_
 refine WL_th ?_
 refine W_forget (Ext.cd 4 rfl (Ext.nil _)) ?_
 refine W_ret ?_
 refine bl_ret ?_
 refine th_ret ?_
 refine ret_tmp (fn := Tryz.f19) rfl rfl ?_
 have hs := hs.first2.nilA
 have hs := hs.front .t2
 have hs := hs.front .t2
 have hs := hs.seal_node (T := 96) hf0 hg1 (fun w S => .leaf rfl (by decide))
 exact hs.fresh ⟨_, rfl, rfl, rfl, fun _ _ => rfl⟩
theorem c_bare6 {Γ : Glob} (n : NRec) (hk : n.kind = 6) (tb : Nat) (pb : Nat) (w : World) (hG : Γ.p w) (ht : w.heap[tb]? = some (.cells (mkA 9 (tokC n.typ n.text n.origin pb)) 71 (0, 0))) (hR : RepN w (.mk n [])) : Fresh Tryz.prog 19 [.agg (mkA 19 (nc n)), .pointer (some ⟨tb, 0, none⟩)] w (BuildR (.mk n [])) := by
 have hs := St.startNone w
 obtain ⟨kind, typ, value, text, origin, flow, pl, pc, po, kv⟩ := n
 obtain rfl : kind = 6 := hk
 refine calls_W (args := [_, _]) Tryz.func19 rfl Tryz.ntmps19 rfl ?_
 refine W_sr ?_
 refine k_box hs rfl rfl ?_
 intro b2 _ hs
 refine s_pu (p_assign rfl) rfl ?_
 refine WL_th ?_
 refine W_seq ?_
 refine W_sr ?_
 refine s_pu (p_field rfl) rfl ?_
 refine k_ld hs rfl .head rfl rfl ?_
 refine WL_th ?_
 refine W_block ?_
 refine W_sr ?_
 refine s_pu (p_eqI rfl rfl) rfl ?_
 refine s_pu (p_assign rfl) rfl ?_
 refine WL_th ?_
 refine W_false rfl ?_
 refine W_sr ?_
 refine s_pu (p_eqI rfl rfl) rfl ?_
 refine s_pu (p_assign rfl) rfl ?_
 refine WL_th ?_
 refine W_false rfl ?_
 refine W_sr ?_
 refine s_pu (p_eqI rfl rfl) rfl ?_
 refine s_pu (p_assign rfl) rfl ?_
 refine WL_th ?_
 refine W_false rfl ?_
 refine W_sr ?_
 refine s_pu (p_eqI rfl rfl) rfl ?_
 refine s_pu (p_assign rfl) rfl ?_
 refine WL_th ?_
 refine W_false rfl ?_
 refine W_sr ?_
 refine s_pu (p_eqI rfl rfl) rfl ?_
 refine s_pu (p_assign rfl) rfl ?_
 refine WL_th ?_
 refine W_forget (Ext.cd 1 rfl (Ext.cd 2 rfl (Ext.cd 15 rfl (Ext.cd 36 rfl (Ext.nil _))))) ?_
 refine W_true rfl ?_
 refine W_sr ?_
 refine s_pu (p_move rfl) rfl ?_
 refine k_fresh (c_Infinity _ _ _ _ _ _ (hs.old ht)) hs (.cons rfl .nil) rfl ?_
 rintro _ _ _ ⟨nb, bb, nf, ng, rfl, rfl, hf0, hg1, hC⟩ hs _
 refine s_pu (p_iface rfl) rfl ?_
 refine s_pu (p_assign rfl) rfl ?_
 refine WL_th ?_
 refine W_ret ?_
 refine bl_ret ?_
 refine th_ret ?_
 refine ret_tmp (fn := Tryz.f19) rfl rfl ?_
 have hs := hs.first2.nilA
 have hs := hs.front .t2
 have hs := hs.front .t2
 have hs := hs.seal_node (T := 102) hf0 hg1 (fun w S => .leaf rfl (by decide))
 exact hs.fresh ⟨_, rfl, rfl, rfl, fun _ _ => rfl⟩
theorem c_bare7 {Γ : Glob} (n : NRec) (hk : n.kind = 7) (tb : Nat) (pb : Nat) (w : World) (hG : Γ.p w) (ht : w.heap[tb]? = some (.cells (mkA 9 (tokC n.typ n.text n.origin pb)) 71 (0, 0))) (hR : RepN w (.mk n [])) : Fresh Tryz.prog 19 [.agg (mkA 19 (nc n)), .pointer (some ⟨tb, 0, none⟩)] w (BuildR (.mk n [])) := by
 have hs := St.startNone w
 obtain ⟨kind, typ, value, text, origin, flow, pl, pc, po, kv⟩ := n
 obtain rfl : kind = 7 := hk
 refine calls_W (args := [_, _]) Tryz.func19 rfl Tryz.ntmps19 rfl ?_
 refine W_sr ?_
 refine k_box hs rfl rfl ?_
 intro b2 _ hs
 refine s_pu (p_assign rfl) rfl ?_
 refine WL_th ?_
 refine W_seq ?_
 refine W_sr ?_
 refine s_pu (p_field rfl) rfl ?_
 refine k_ld hs rfl .head rfl rfl ?_
 refine WL_th ?_
 refine W_block ?_
 refine W_sr ?_
 refine s_pu (p_eqI rfl rfl) rfl ?_
 refine s_pu (p_assign rfl) rfl ?_
 refine WL_th ?_
 refine W_false rfl ?_
 refine W_sr ?_
 refine s_pu (p_eqI rfl rfl) rfl ?_
 refine s_pu (p_assign rfl) rfl ?_
 refine WL_th ?_
 refine W_false rfl ?_
 refine W_sr ?_
 refine s_pu (p_eqI rfl rfl) rfl ?_
 refine s_pu (p_assign rfl) rfl ?_
 refine WL_th ?_
 refine W_false rfl ?_
 refine W_sr ?_
 refine s_pu (p_eqI rfl rfl) rfl ?_
 refine s_pu (p_assign rfl) rfl ?_
 refine WL_th ?_
 refine W_false rfl ?_
 refine W_sr ?_
 refine s_pu (p_eqI rfl rfl) rfl ?_
 refine s_pu (p_assign rfl) rfl ?_
 refine WL_th ?_
 refine W_forget (Ext.cd 1 rfl (Ext.cd 2 rfl (Ext.cd 15 rfl (Ext.cd 36 rfl (Ext.nil _))))) ?_
 refine W_false rfl ?_
 refine W_sr ?_
 refine s_pu (p_eqI rfl rfl) rfl ?_
 refine s_pu (p_assign rfl) rfl ?_
 refine WL_th ?_
 refine W_true rfl ?_
 refine W_sr ?_
 refine s_pu (p_move rfl) rfl ?_
 refine k_fresh (c_Nan _ _) hs (.cons rfl .nil) rfl ?_
 rintro _ _ _ ⟨nb, bb, nf, ng, rfl, rfl, hf0, hg1, hC⟩ hs _
 refine s_pu (p_iface rfl) rfl ?_
 refine s_pu (p_assign rfl) rfl ?_
 refine WL_th ?_
 refine W_ret ?_
 refine bl_ret ?_
 refine th_ret ?_
 refine ret_tmp (fn := Tryz.f19) rfl rfl ?_
 have hs := hs.first2.nilA
 have hs := hs.front .t2
 have hs := hs.front .t2
 have hs := hs.seal_node (T := 104) hf0 hg1 (fun w S => .leaf rfl (by decide))
 exact hs.fresh ⟨_, rfl, rfl, rfl, fun _ _ => rfl⟩
theorem c_bare4 {Γ : Glob} {T : ByteArray → Prop} (hn : ToNumberOK Γ T) (n : NRec) (hT : T n.text) (hk : n.kind = 4) (tb : Nat) (pb : Nat) (w : World) (hG : Γ.p w) (ht : w.heap[tb]? = some (.cells (mkA 9 (tokC n.typ n.text n.origin pb)) 71 (0, 0))) (hR : RepN w (.mk n [])) : Fresh Tryz.prog 19 [.agg (mkA 19 (nc n)), .pointer (some ⟨tb, 0, none⟩)] w (BuildR (.mk n [])) := by
 have hs := St.startNone w
 obtain ⟨kind, typ, value, text, origin, flow, pl, pc, po, kv⟩ := n
 obtain rfl : kind = 4 := hk
 refine calls_W (args := [_, _]) Tryz.func19 rfl Tryz.ntmps19 rfl ?_
 refine W_sr ?_
 refine k_box hs rfl rfl ?_
 intro b2 _ hs
 refine s_pu (p_assign rfl) rfl ?_
 refine WL_th ?_
 refine W_seq ?_
 refine W_sr ?_
 refine s_pu (p_field rfl) rfl ?_
 refine k_ld hs rfl .head rfl rfl ?_
 refine WL_th ?_
 refine W_block ?_
 refine W_sr ?_
 refine s_pu (p_eqI rfl rfl) rfl ?_
 refine s_pu (p_assign rfl) rfl ?_
 refine WL_th ?_
 refine W_false rfl ?_
 refine W_sr ?_
 refine s_pu (p_eqI rfl rfl) rfl ?_
 refine s_pu (p_assign rfl) rfl ?_
 refine WL_th ?_
 refine W_false rfl ?_
 refine W_sr ?_
 refine s_pu (p_eqI rfl rfl) rfl ?_
 refine s_pu (p_assign rfl) rfl ?_
 refine WL_th ?_
 refine W_true rfl ?_
 refine W_sr ?_
 refine s_pu (p_move rfl) rfl ?_
 refine k_fresh (c_Integer hn _ _ _ _ _ hT _ (Γ.keep _ _ hG hs.keep.sames) (hs.old ht)) hs (.cons rfl .nil) rfl ?_
 rintro _ _ _ ⟨nb, bb, nf, ng, rfl, rfl, hf0, hg1, hC⟩ hs _
 refine s_pu (p_iface rfl) rfl ?_
 refine s_pu (p_assign rfl) rfl ?_
 refine WL_th ?_
 refine W_forget (Ext.cd 4 rfl (Ext.nil _)) ?_
 refine W_ret ?_
 refine bl_ret ?_
 refine th_ret ?_
 refine ret_tmp (fn := Tryz.f19) rfl rfl ?_
 have hs := hs.first2.nilA
 have hs := hs.front .t2
 have hs := hs.front .t2
 have hs := hs.seal_node (T := 98) hf0 hg1 (fun w S => .leaf rfl (by decide))
 exact hs.fresh ⟨_, rfl, rfl, rfl, fun _ _ => rfl⟩
theorem c_bare5 {Γ : Glob} {T : ByteArray → Prop} (hn : ToNumberOK Γ T) (n : NRec) (hT : T n.text) (hk : n.kind = 5) (tb : Nat) (pb : Nat) (w : World) (hG : Γ.p w) (ht : w.heap[tb]? = some (.cells (mkA 9 (tokC n.typ n.text n.origin pb)) 71 (0, 0))) (hR : RepN w (.mk n [])) : Fresh Tryz.prog 19 [.agg (mkA 19 (nc n)), .pointer (some ⟨tb, 0, none⟩)] w (BuildR (.mk n [])) := by
 have hs := St.startNone w
 obtain ⟨kind, typ, value, text, origin, flow, pl, pc, po, kv⟩ := n
 obtain rfl : kind = 5 := hk
 refine calls_W (args := [_, _]) Tryz.func19 rfl Tryz.ntmps19 rfl ?_
 refine W_sr ?_
 refine k_box hs rfl rfl ?_
 intro b2 _ hs
 refine s_pu (p_assign rfl) rfl ?_
 refine WL_th ?_
 refine W_seq ?_
 refine W_sr ?_
 refine s_pu (p_field rfl) rfl ?_
 refine k_ld hs rfl .head rfl rfl ?_
 refine WL_th ?_
 refine W_block ?_
 refine W_sr ?_
 refine s_pu (p_eqI rfl rfl) rfl ?_
 refine s_pu (p_assign rfl) rfl ?_
 refine WL_th ?_
 refine W_false rfl ?_
 refine W_sr ?_
 refine s_pu (p_eqI rfl rfl) rfl ?_
 refine s_pu (p_assign rfl) rfl ?_
 refine WL_th ?_
 refine W_false rfl ?_
 refine W_sr ?_
 refine s_pu (p_eqI rfl rfl) rfl ?_
 refine s_pu (p_assign rfl) rfl ?_
 refine WL_th ?_
 refine W_false rfl ?_
 refine W_sr ?_
 refine s_pu (p_eqI rfl rfl) rfl ?_
 refine s_pu (p_assign rfl) rfl ?_
 refine WL_th ?_
 refine W_true rfl ?_
 refine W_sr ?_
 refine s_pu (p_move rfl) rfl ?_
 refine k_fresh (c_Float hn _ _ _ _ _ hT _ (Γ.keep _ _ hG hs.keep.sames) (hs.old ht)) hs (.cons rfl .nil) rfl ?_
 rintro _ _ _ ⟨nb, bb, nf, ng, rfl, rfl, hf0, hg1, hC⟩ hs _
 refine s_pu (p_iface rfl) rfl ?_
 refine s_pu (p_assign rfl) rfl ?_
 refine WL_th ?_
 refine W_forget (Ext.cd 4 rfl (Ext.nil _)) ?_
 refine W_ret ?_
 refine bl_ret ?_
 refine th_ret ?_
 refine ret_tmp (fn := Tryz.f19) rfl rfl ?_
 have hs := hs.first2.nilA
 have hs := hs.front .t2
 have hs := hs.front .t2
 have hs := hs.seal_node (T := 100) hf0 hg1 (fun w S => .leaf rfl (by decide))
 exact hs.fresh ⟨_, rfl, rfl, rfl, fun _ _ => rfl⟩
theorem c_bare8 {Γ : Glob} (n : NRec) (hk : n.kind = 8) (tb : Nat) (pb : Nat) (w : World) (hG : Γ.p w) (ht : w.heap[tb]? = some (.cells (mkA 9 (tokC n.typ n.text n.origin pb)) 71 (0, 0))) (hR : RepN w (.mk n [])) : Fresh Tryz.prog 19 [.agg (mkA 19 (nc n)), .pointer (some ⟨tb, 0, none⟩)] w (BuildR (.mk n [])) := by
 have hs := St.startNone w
 obtain ⟨kind, typ, value, text, origin, flow, pl, pc, po, kv⟩ := n
 obtain rfl : kind = 8 := hk
 refine calls_W (args := [_, _]) Tryz.func19 rfl Tryz.ntmps19 rfl ?_
 refine W_sr ?_
 refine k_box hs rfl rfl ?_
 intro b2 _ hs
 refine s_pu (p_assign rfl) rfl ?_
 refine WL_th ?_
 refine W_seq ?_
 refine W_sr ?_
 refine s_pu (p_field rfl) rfl ?_
 refine k_ld hs rfl .head rfl rfl ?_
 refine WL_th ?_
 refine W_block ?_
 refine W_sr ?_
 refine s_pu (p_eqI rfl rfl) rfl ?_
 refine s_pu (p_assign rfl) rfl ?_
 refine WL_th ?_
 refine W_false rfl ?_
 refine W_sr ?_
 refine s_pu (p_eqI rfl rfl) rfl ?_
 refine s_pu (p_assign rfl) rfl ?_
 refine WL_th ?_
 refine W_false rfl ?_
 refine W_sr ?_
 refine s_pu (p_eqI rfl rfl) rfl ?_
 refine s_pu (p_assign rfl) rfl ?_
 refine WL_th ?_
 refine W_false rfl ?_
 refine W_sr ?_
 refine s_pu (p_eqI rfl rfl) rfl ?_
 refine s_pu (p_assign rfl) rfl ?_
 refine WL_th ?_
 refine W_false rfl ?_
 refine W_sr ?_
 refine s_pu (p_eqI rfl rfl) rfl ?_
 refine s_pu (p_assign rfl) rfl ?_
 refine WL_th ?_
 refine W_forget (Ext.cd 1 rfl (Ext.cd 2 rfl (Ext.cd 15 rfl (Ext.cd 36 rfl (Ext.nil _))))) ?_
 refine W_false rfl ?_
 refine W_sr ?_
 refine s_pu (p_eqI rfl rfl) rfl ?_
 refine s_pu (p_assign rfl) rfl ?_
 refine WL_th ?_
 refine W_false rfl ?_
 refine W_sr ?_
 refine s_pu (p_eqI rfl rfl) rfl ?_
 refine s_pu (p_assign rfl) rfl ?_
 refine WL_th ?_
 refine W_true rfl ?_
 refine W_sr ?_
 refine k_ldW hs rfl .head rfl ?_
 refine k_fresh (c_text _ _) hs (.cons rfl .nil) rfl ?_
 rintro _ _ _ ⟨nb, bb, nf, ng, rfl, rfl, hf0, hg1, hC⟩ hs _
 refine s_pu (p_iface rfl) rfl ?_
 refine s_pu (p_assign rfl) rfl ?_
 refine WL_th ?_
 refine W_forget (Ext.cd 4 rfl (Ext.nil _)) ?_
 refine W_ret ?_
 refine bl_ret ?_
 refine th_ret ?_
 refine ret_tmp (fn := Tryz.f19) rfl rfl ?_
 have hs := hs.first2.nilA
 have hs := hs.front .t2
 have hs := hs.front .t2
 have hs := hs.seal_node (T := 106) hf0 hg1 (fun w S => .leaf rfl (by decide))
 exact hs.fresh ⟨_, rfl, rfl, rfl, fun _ _ => rfl⟩
theorem c_bare10 {Γ : Glob} (k : NRec) (n : NRec) (hk : n.kind = 10) (tb : Nat) (pb : Nat) (w : World) (hG : Γ.p w) (ht : w.heap[tb]? = some (.cells (mkA 9 (tokC n.typ n.text n.origin pb)) 71 (0, 0))) (hR : RepN w (.mk n [.mk k []])) : Fresh Tryz.prog 19 [.agg (mkA 19 (nc n)), .pointer (some ⟨tb, 0, none⟩)] w (BuildR (.mk n [.mk k []])) := by
 have hRk : RepN w (.mk k []) := hR.all _ (by simp [Rose.kids])
 have hs := St.startNone w
 obtain ⟨kind, typ, value, text, origin, flow, pl, pc, po, kv⟩ := n
 obtain rfl : kind = 10 := hk
 refine calls_W (args := [_, _]) Tryz.func19 rfl Tryz.ntmps19 rfl ?_
 refine W_sr ?_
 refine k_box hs rfl rfl ?_
 intro b2 _ hs
 refine s_pu (p_assign rfl) rfl ?_
 refine WL_th ?_
 refine W_seq ?_
 refine W_sr ?_
 refine s_pu (p_field rfl) rfl ?_
 refine k_ld hs rfl .head rfl rfl ?_
 refine WL_th ?_
 refine W_block ?_
 refine W_sr ?_
 refine s_pu (p_eqI rfl rfl) rfl ?_
 refine s_pu (p_assign rfl) rfl ?_
 refine WL_th ?_
 refine W_false rfl ?_
 refine W_sr ?_
 refine s_pu (p_eqI rfl rfl) rfl ?_
 refine s_pu (p_assign rfl) rfl ?_
 refine WL_th ?_
 refine W_false rfl ?_
 refine W_sr ?_
 refine s_pu (p_eqI rfl rfl) rfl ?_
 refine s_pu (p_assign rfl) rfl ?_
 refine WL_th ?_
 refine W_false rfl ?_
 refine W_sr ?_
 refine s_pu (p_eqI rfl rfl) rfl ?_
 refine s_pu (p_assign rfl) rfl ?_
 refine WL_th ?_
 refine W_false rfl ?_
 refine W_sr ?_
 refine s_pu (p_eqI rfl rfl) rfl ?_
 refine s_pu (p_assign rfl) rfl ?_
 refine WL_th ?_
 refine W_forget (Ext.cd 1 rfl (Ext.cd 2 rfl (Ext.cd 15 rfl (Ext.cd 36 rfl (Ext.nil _))))) ?_
 refine W_false rfl ?_
 refine W_sr ?_
 refine s_pu (p_eqI rfl rfl) rfl ?_
 refine s_pu (p_assign rfl) rfl ?_
 refine WL_th ?_
 refine W_false rfl ?_
 refine W_sr ?_
 refine s_pu (p_eqI rfl rfl) rfl ?_
 refine s_pu (p_assign rfl) rfl ?_
 refine WL_th ?_
 refine W_false rfl ?_
 refine W_sr ?_
 refine s_pu (p_eqI rfl rfl) rfl ?_
 refine s_pu (p_assign rfl) rfl ?_
 refine WL_th ?_
 refine W_false rfl ?_
 refine W_sr ?_
 refine s_pu (p_eqI rfl rfl) rfl ?_
 refine s_pu (p_assign rfl) rfl ?_
 refine WL_th ?_
 refine W_true rfl ?_
 refine W_sr ?_
 refine s_pu (p_move rfl) rfl ?_
 refine k_fresh (c_Literal _ _) hs (.cons rfl .nil) rfl ?_
 rintro _ _ _ ⟨nb, bb, nf, ng, rfl, rfl, hf0, hg1, hC⟩ hs _
 refine s_pu (p_assign rfl) rfl ?_
 refine WL_th ?_
 refine W_forget (Ext.cd 2 rfl (Ext.cd 5 rfl (Ext.nil _))) ?_
 refine W_sr ?_
 refine s_pu (p_move rfl) rfl ?_
 refine k_ldW hs rfl .t2 rfl ?_
 refine k_quiet (c_kid _ _ 0 (.mk k []) _ (hR.keep hs.keep.sames).kids rfl (hRk.one)) hs (.cons rfl (.cons rfl .nil)) rfl ?_
 rintro _ _ rfl hs _
 refine k_fresh (c_text _ _) hs (.cons rfl .nil) rfl ?_
 rintro _ _ _ ⟨sb, sbb, sf, sg, rfl, rfl, hsf0, hsg1, _⟩ hs _
 refine s_pu (p_nilCheck rfl) rfl ?_
 refine s_pu (p_field rfl) rfl ?_
 refine k_st hs rfl rfl (by repeat (first | exact .head | apply Put.tail)) rfl rfl ?_
 intro _ hs
 refine WL_th ?_
 refine W_sr ?_
 refine s_pu (p_move rfl) rfl ?_
 refine s_pu (p_iface rfl) rfl ?_
 refine s_pu (p_assign rfl) rfl ?_
 refine WL_th ?_
 refine W_ret ?_
 refine bl_ret ?_
 refine th_ret ?_
 refine ret_tmp (fn := Tryz.f19) rfl rfl ?_
 have hs := hs.nilA
 have hs := hs.front .head
 have hs := hs.front .t2
 have hs := hs.front .t2
 have hs := hs.seal_node (T := 106) hsf0 hsg1 (fun w S => .leaf rfl (by decide))
 have hs := hs.front .head
 have hs := hs.front .t2
 have hs := hs.front .t2
 have hs := hs.seal_node (T := 110) hf0 hg1 (fun w S => .lit rfl rfl)
 exact hs.first1.fresh ⟨_, rfl, rfl, rfl, fun _ h => by exfalso; have h3 : (10 : Int) ≤ 8 := h; omega⟩
theorem c_bare13 {Γ : Glob} (a b : Rose) (ha1 : 2 ≤ a.n.kind) (ha2 : a.n.kind ≤ 8) (hBa : BuildOK Γ a) (hBb : BuildOK Γ b) (n : NRec) (hk : n.kind = 13) (tb : Nat) (pb : Nat) (w : World) (hG : Γ.p w) (ht : w.heap[tb]? = some (.cells (mkA 9 (tokC n.typ n.text n.origin pb)) 71 (0, 0))) (hR : RepN w (.mk n [a, b])) : Fresh Tryz.prog 19 [.agg (mkA 19 (nc n)), .pointer (some ⟨tb, 0, none⟩)] w (BuildR (.mk n [a, b])) := by
 have hs := St.startNone w
 obtain ⟨kind, typ, value, text, origin, flow, pl, pc, po, kv⟩ := n
 obtain rfl : kind = 13 := hk
 refine calls_W (args := [_, _]) Tryz.func19 rfl Tryz.ntmps19 rfl ?_
 refine W_sr ?_
 refine k_box hs rfl rfl ?_
 intro b2 _ hs
 refine s_pu (p_assign rfl) rfl ?_
 refine WL_th ?_
 refine W_seq ?_
 refine W_sr ?_
 refine s_pu (p_field rfl) rfl ?_
 refine k_ld hs rfl .head rfl rfl ?_
 refine WL_th ?_
 refine W_block ?_
 refine W_sr ?_
 refine s_pu (p_eqI rfl rfl) rfl ?_
 refine s_pu (p_assign rfl) rfl ?_
 refine WL_th ?_
 refine W_false rfl ?_
 refine W_sr ?_
 refine s_pu (p_eqI rfl rfl) rfl ?_
 refine s_pu (p_assign rfl) rfl ?_
 refine WL_th ?_
 refine W_false rfl ?_
 refine W_sr ?_
 refine s_pu (p_eqI rfl rfl) rfl ?_
 refine s_pu (p_assign rfl) rfl ?_
 refine WL_th ?_
 refine W_false rfl ?_
 refine W_sr ?_
 refine s_pu (p_eqI rfl rfl) rfl ?_
 refine s_pu (p_assign rfl) rfl ?_
 refine WL_th ?_
 refine W_false rfl ?_
 refine W_sr ?_
 refine s_pu (p_eqI rfl rfl) rfl ?_
 refine s_pu (p_assign rfl) rfl ?_
 refine WL_th ?_
 refine W_forget (Ext.cd 1 rfl (Ext.cd 2 rfl (Ext.cd 15 rfl (Ext.cd 36 rfl (Ext.nil _))))) ?_
 refine W_false rfl ?_
 refine W_sr ?_
 refine s_pu (p_eqI rfl rfl) rfl ?_
 refine s_pu (p_assign rfl) rfl ?_
 refine WL_th ?_
 refine W_false rfl ?_
 refine W_sr ?_
 refine s_pu (p_eqI rfl rfl) rfl ?_
 refine s_pu (p_assign rfl) rfl ?_
 refine WL_th ?_
 refine W_false rfl ?_
 refine W_sr ?_
 refine s_pu (p_eqI rfl rfl) rfl ?_
 refine s_pu (p_assign rfl) rfl ?_
 refine WL_th ?_
 refine W_false rfl ?_
 refine W_sr ?_
 refine s_pu (p_eqI rfl rfl) rfl ?_
 refine s_pu (p_assign rfl) rfl ?_
 refine WL_th ?_
 refine W_false rfl ?_
 refine W_sr ?_
 refine s_pu (p_eqI rfl rfl) rfl ?_
 refine s_pu (p_assign rfl) rfl ?_
 refine WL_th ?_
 refine W_false rfl ?_
 refine W_sr ?_
 refine s_pu (p_eqI rfl rfl) rfl ?_
 refine s_pu (p_assign rfl) rfl ?_
 refine WL_th ?_
 refine W_forget (Ext.cd 1 rfl (Ext.cd 2 rfl (Ext.cd 15 rfl (Ext.cd 89 rfl (Ext.nil _))))) ?_
 refine W_false rfl ?_
 refine W_sr ?_
 refine s_pu (p_eqI rfl rfl) rfl ?_
 refine s_pu (p_assign rfl) rfl ?_
 refine WL_th ?_
 refine W_true rfl ?_
 refine W_sr ?_
 refine k_ldW hs rfl .head rfl ?_
 refine k_fresh (c_pair _ a b ha1 ha2 hBa hBb _ (Γ.keep _ _ hG hs.keep.sames) (hR.keep hs.keep.sames)) hs (.cons rfl .nil) rfl ?_
 rintro _ _ _ ⟨t, rfl, hT, rfl, hsh⟩ hs _
 refine s_pu (p_iface rfl) rfl ?_
 refine s_pu (p_assign rfl) rfl ?_
 refine WL_th ?_
 refine W_ret ?_
 refine bl_ret ?_
 refine th_ret ?_
 refine ret_tmp (fn := Tryz.f19) rfl rfl ?_
 exact hs.first1.fresh ⟨t, by rw [AT.val, hT]; rfl, rfl, hsh, fun _ h => by exfalso; have h3 : (13 : Int) ≤ 8 := h; omega⟩
theorem c_bare14 {Γ : Glob} (ks : List Rose) (hlen : ks.length ≤ 1000000) (hB : ∀ k ∈ ks, BuildOK Γ k) (n : NRec) (hk : n.kind = 14) (tb : Nat) (pb : Nat) (w : World) (hG : Γ.p w) (ht : w.heap[tb]? = some (.cells (mkA 9 (tokC n.typ n.text n.origin pb)) 71 (0, 0))) (hR : RepN w (.mk n ks)) : Fresh Tryz.prog 19 [.agg (mkA 19 (nc n)), .pointer (some ⟨tb, 0, none⟩)] w (BuildR (.mk n ks)) := by
 have hs := St.startNone w
 obtain ⟨kind, typ, value, text, origin, flow, pl, pc, po, kv⟩ := n
 obtain rfl : kind = 14 := hk
 refine calls_W (args := [_, _]) Tryz.func19 rfl Tryz.ntmps19 rfl ?_
 refine W_sr ?_
 refine k_box hs rfl rfl ?_
 intro b2 _ hs
 refine s_pu (p_assign rfl) rfl ?_
 refine WL_th ?_
 refine W_seq ?_
 refine W_sr ?_
 refine s_pu (p_field rfl) rfl ?_
 refine k_ld hs rfl .head rfl rfl ?_
 refine WL_th ?_
 refine W_block ?_
 refine W_sr ?_
 refine s_pu (p_eqI rfl rfl) rfl ?_
 refine s_pu (p_assign rfl) rfl ?_
 refine WL_th ?_
 refine W_false rfl ?_
 refine W_sr ?_
 refine s_pu (p_eqI rfl rfl) rfl ?_
 refine s_pu (p_assign rfl) rfl ?_
 refine WL_th ?_
 refine W_false rfl ?_
 refine W_sr ?_
 refine s_pu (p_eqI rfl rfl) rfl ?_
 refine s_pu (p_assign rfl) rfl ?_
 refine WL_th ?_
 refine W_false rfl ?_
 refine W_sr ?_
 refine s_pu (p_eqI rfl rfl) rfl ?_
 refine s_pu (p_assign rfl) rfl ?_
 refine WL_th ?_
 refine W_false rfl ?_
 refine W_sr ?_
 refine s_pu (p_eqI rfl rfl) rfl ?_
 refine s_pu (p_assign rfl) rfl ?_
 refine WL_th ?_
 refine W_forget (Ext.cd 1 rfl (Ext.cd 2 rfl (Ext.cd 15 rfl (Ext.cd 36 rfl (Ext.nil _))))) ?_
 refine W_false rfl ?_
 refine W_sr ?_
 refine s_pu (p_eqI rfl rfl) rfl ?_
 refine s_pu (p_assign rfl) rfl ?_
 refine WL_th ?_
 refine W_false rfl ?_
 refine W_sr ?_
 refine s_pu (p_eqI rfl rfl) rfl ?_
 refine s_pu (p_assign rfl) rfl ?_
 refine WL_th ?_
 refine W_false rfl ?_
 refine W_sr ?_
 refine s_pu (p_eqI rfl rfl) rfl ?_
 refine s_pu (p_assign rfl) rfl ?_
 refine WL_th ?_
 refine W_false rfl ?_
 refine W_sr ?_
 refine s_pu (p_eqI rfl rfl) rfl ?_
 refine s_pu (p_assign rfl) rfl ?_
 refine WL_th ?_
 refine W_false rfl ?_
 refine W_sr ?_
 refine s_pu (p_eqI rfl rfl) rfl ?_
 refine s_pu (p_assign rfl) rfl ?_
 refine WL_th ?_
 refine W_false rfl ?_
 refine W_sr ?_
 refine s_pu (p_eqI rfl rfl) rfl ?_
 refine s_pu (p_assign rfl) rfl ?_
 refine WL_th ?_
 refine W_forget (Ext.cd 1 rfl (Ext.cd 2 rfl (Ext.cd 15 rfl (Ext.cd 89 rfl (Ext.nil _))))) ?_
 refine W_false rfl ?_
 refine W_sr ?_
 refine s_pu (p_eqI rfl rfl) rfl ?_
 refine s_pu (p_assign rfl) rfl ?_
 refine WL_th ?_
 refine W_false rfl ?_
 refine W_sr ?_
 refine s_pu (p_eqI rfl rfl) rfl ?_
 refine s_pu (p_assign rfl) rfl ?_
 refine WL_th ?_
 refine W_true rfl ?_
 refine W_sr ?_
 refine k_ldW hs rfl .head rfl ?_
 refine s_pu (p_move rfl) rfl ?_
 refine k_fresh (c_sequence _ ks rfl hlen hB _ _ _ _ _ _ (Γ.keep _ _ hG hs.keep.sames) (hs.old ht) (hR.keep hs.keep.sames)) hs (.cons rfl (.cons rfl .nil)) rfl ?_
 rintro v110 _ _ ⟨t, rfl, rfl, hsh, hkey⟩ hs _
 refine s_pu (p_assign rfl) rfl ?_
 refine WL_th ?_
 refine W_forget (Ext.cd 4 rfl (Ext.nil _)) ?_
 refine W_ret ?_
 refine bl_ret ?_
 refine th_ret ?_
 refine ret_tmp (fn := Tryz.f19) rfl rfl ?_
 exact hs.first1.fresh ⟨t, rfl, rfl, hsh, hkey⟩
theorem ls_ptr (ts : List AT) : ∀ i, i < (ts.map AT.ptr).length * 1 → (ls (ts.map AT.ptr) i).oneCell' = true := fun i hi => by
 unfold ls
 have hi' : i < ts.length := by simpa using hi
 simp [hi', AT.ptr, Value.oneCell']
theorem c_bare11 {Γ : Glob} (ks : List Rose) (hlen : ks.length ≤ 1000000) (hP : ∀ k ∈ ks, PairOK Γ k) (n : NRec) (hk : n.kind = 11) (tb : Nat) (pb : Nat) (w : World) (hG : Γ.p w) (ht : w.heap[tb]? = some (.cells (mkA 9 (tokC n.typ n.text n.origin pb)) 71 (0, 0))) (hR : RepN w (.mk n ks)) : Fresh Tryz.prog 19 [.agg (mkA 19 (nc n)), .pointer (some ⟨tb, 0, none⟩)] w (BuildR (.mk n ks)) := by
 have hs := St.startNone w
 obtain ⟨kind, typ, value, text, origin, flow, pl, pc, po, kv⟩ := n
 obtain rfl : kind = 11 := hk
 refine calls_W (args := [_, _]) Tryz.func19 rfl Tryz.ntmps19 rfl ?_
 refine W_sr ?_
 refine k_box hs rfl rfl ?_
 intro b2 _ hs
 refine s_pu (p_assign rfl) rfl ?_
 refine WL_th ?_
 refine W_seq ?_
 refine W_sr ?_
 refine s_pu (p_field rfl) rfl ?_
 refine k_ld hs rfl .head rfl rfl ?_
 refine WL_th ?_
 refine W_block ?_
 refine W_sr ?_
 refine s_pu (p_eqI rfl rfl) rfl ?_
 refine s_pu (p_assign rfl) rfl ?_
 refine WL_th ?_
 refine W_false rfl ?_
 refine W_sr ?_
 refine s_pu (p_eqI rfl rfl) rfl ?_
 refine s_pu (p_assign rfl) rfl ?_
 refine WL_th ?_
 refine W_false rfl ?_
 refine W_sr ?_
 refine s_pu (p_eqI rfl rfl) rfl ?_
 refine s_pu (p_assign rfl) rfl ?_
 refine WL_th ?_
 refine W_false rfl ?_
 refine W_sr ?_
 refine s_pu (p_eqI rfl rfl) rfl ?_
 refine s_pu (p_assign rfl) rfl ?_
 refine WL_th ?_
 refine W_false rfl ?_
 refine W_sr ?_
 refine s_pu (p_eqI rfl rfl) rfl ?_
 refine s_pu (p_assign rfl) rfl ?_
 refine WL_th ?_
 refine W_forget (Ext.cd 1 rfl (Ext.cd 2 rfl (Ext.cd 15 rfl (Ext.cd 36 rfl (Ext.nil _))))) ?_
 refine W_false rfl ?_
 refine W_sr ?_
 refine s_pu (p_eqI rfl rfl) rfl ?_
 refine s_pu (p_assign rfl) rfl ?_
 refine WL_th ?_
 refine W_false rfl ?_
 refine W_sr ?_
 refine s_pu (p_eqI rfl rfl) rfl ?_
 refine s_pu (p_assign rfl) rfl ?_
 refine WL_th ?_
 refine W_false rfl ?_
 refine W_sr ?_
 refine s_pu (p_eqI rfl rfl) rfl ?_
 refine s_pu (p_assign rfl) rfl ?_
 refine WL_th ?_
 refine W_false rfl ?_
 refine W_sr ?_
 refine s_pu (p_eqI rfl rfl) rfl ?_
 refine s_pu (p_assign rfl) rfl ?_
 refine WL_th ?_
 refine W_false rfl ?_
 refine W_sr ?_
 refine s_pu (p_eqI rfl rfl) rfl ?_
 refine s_pu (p_assign rfl) rfl ?_
 refine WL_th ?_
 refine W_true rfl ?_
 refine W_seq ?_
 refine h_start (S := fun w => w.heap[b2]? = some (.cells (mkA 19 (nc ⟨11, typ, value, text, origin, flow, pl, pc, po, kv⟩)) 31 (0, 0))) (ls := #[false, false, false, false, false, false, false, false]) (n := 8) (by kernel_rfl) (by kernel_rfl) ?_
 have hs := hs.drew
 refine h_pu 0 rfl (ls' := #[true, false, false, false, false, false, false, false]) (by kernel_rfl) (fun _ _ _ h => h) rfl (hs.cell .head) (p_move rfl) ?_
 refine h_pu 1 rfl (ls' := #[true, true, false, false, false, false, false, false]) (by kernel_rfl) (fun _ _ _ h => h) rfl (hs.cell .head) (p_field rfl) ?_
 refine h_take 2 rfl (ls' := #[true, true, true, false, false, false, false, false]) (by kernel_rfl) (fun _ _ _ h => h) rfl (hs.cell .head) (fun w hw => q_ld rfl hw rfl) ?_
 refine h_pu 3 rfl (ls' := #[true, true, true, true, false, false, false, false]) (by kernel_rfl) (fun _ _ _ h => h) rfl (hs.cell .head) (p_field rfl) ?_
 refine h_take 4 rfl (ls' := #[true, true, true, true, true, false, false, false]) (by kernel_rfl) (fun _ _ _ h => h) rfl (hs.cell .head) (fun w hw => q_ld rfl hw rfl) ?_
 refine h_one 5 rfl (ls' := #[true, true, true, true, true, true, false, false]) (by kernel_rfl) ?_
 refine k_fresh (c_pairs _ ks _ (Γ.keep _ _ hG hs.keep.sames) hlen (hR.keep hs.keep.sames).kids (fun k hk => (hR.all k hk).keep hs.keep.sames) hP) hs (.cons rfl .nil) rfl ?_
 rintro v75 _ _ ⟨ts, rfl, hTs, hsh, hlts⟩ hs _
 refine WL_th ⟨(hs.cell .t2), ?_⟩
 refine h_one 6 rfl (ls' := #[true, true, true, true, true, true, true, false]) (by kernel_rfl) ?_
 refine k_spec [row v75 126 1 (ts.map AT.ptr).length (ls (ts.map AT.ptr))] (c_Mapping _ _ _ _ (by rw [List.length_map, hlts]; exact hlen) (ls_ptr ts)) hs (.cons rfl (.cons rfl (.cons rfl .nil))) rfl ?_
 rintro _ _ _ ⟨nb, bb, u, rfl, rfl⟩ hs
 refine WL_th ⟨(hs.cell .t4), ?_⟩
 refine h_pu 7 rfl (ls' := #[true, true, true, true, true, true, true, true]) (by kernel_rfl) (fun _ _ _ h => h) rfl (hs.cell .t4) (p_assign rfl) ?_
 refine h_done (by kernel_rfl) ?_
 show W _ _ _ _ _ _
 refine W_forget (Ext.cd 1 rfl (Ext.cd 2 rfl (Ext.cd 6 rfl (Ext.nil _)))) ?_
 refine W_seq ?_
 refine h_start (S := fun w => w.heap[b2]? = some (.cells (mkA 19 (nc ⟨11, typ, value, text, origin, flow, pl, pc, po, kv⟩)) 31 (0, 0)) ∧ w.heap[tb]? = some (.cells (mkA 9 (tokC typ text origin pb)) 71 (0, 0))) (ls := #[false, false, false, false, false, false, false, false, false, false, false]) (n := 11) (by kernel_rfl) (by kernel_rfl) ?_
 have hs := hs.drew
 refine h_pu 0 rfl (ls' := #[true, false, false, false, false, false, false, false, false, false, false]) (by kernel_rfl) (fun _ _ _ h => h) rfl ⟨hs.cell .t4, hs.old ht⟩ (p_move rfl) ?_
 refine h_pu 1 rfl (ls' := #[true, true, false, false, false, false, false, false, false, false, false]) (by kernel_rfl) (fun _ _ _ h => h) rfl ⟨hs.cell .t4, hs.old ht⟩ (p_field rfl) ?_
 refine h_take 2 rfl (ls' := #[true, true, true, false, false, false, false, false, false, false, false]) (by kernel_rfl) (fun _ _ _ h => h) rfl ⟨hs.cell .t4, hs.old ht⟩ (fun w hw => q_ld rfl hw.1 rfl) ?_
 refine h_pu 3 rfl (ls' := #[true, true, true, true, false, false, false, false, false, false, false]) (by kernel_rfl) (fun _ _ _ h => h) rfl ⟨hs.cell .t4, hs.old ht⟩ (p_move rfl) ?_
 refine h_pu 4 rfl (ls' := #[true, true, true, true, true, false, false, false, false, false, false]) (by kernel_rfl) (fun _ _ _ h => h) rfl ⟨hs.cell .t4, hs.old ht⟩ (p_nilCheck rfl) ?_
 refine h_pu 5 rfl (ls' := #[true, true, true, true, true, true, false, false, false, false, false]) (by kernel_rfl) (fun _ _ _ h => h) rfl ⟨hs.cell .t4, hs.old ht⟩ (p_field rfl) ?_
 refine h_take 6 rfl (ls' := #[true, true, true, true, true, true, true, false, false, false, false]) (by kernel_rfl) (fun _ _ _ h => h) rfl ⟨hs.cell .t4, hs.old ht⟩ (fun w hw => q_ld rfl hw.2 rfl) ?_
 refine h_one 7 rfl (ls' := #[true, true, true, true, true, true, true, true, false, false, false]) (by kernel_rfl) ?_
 refine k_quiet (c_comments _ _) hs (.cons rfl (.cons rfl .nil)) rfl ?_
 rintro _ _ rfl hs _
 refine WL_th ⟨⟨hs.cell .t4, hs.old ht⟩, ?_⟩
 refine h_pu 8 rfl (ls' := #[true, true, true, true, true, true, true, true, true, false, false]) (by kernel_rfl) (fun _ _ _ h => h) rfl ⟨hs.cell .t4, hs.old ht⟩ (p_nilCheck rfl) ?_
 refine h_pu 9 rfl (ls' := #[true, true, true, true, true, true, true, true, true, true, false]) (by kernel_rfl) (fun _ _ _ h => h) rfl ⟨hs.cell .t4, hs.old ht⟩ (p_field rfl) ?_
 refine h_one 10 rfl (ls' := #[true, true, true, true, true, true, true, true, true, true, true]) (by kernel_rfl) ?_
 refine k_st hs rfl rfl (by repeat (first | exact .head | apply Put.tail)) rfl rfl ?_
 intro _ hs
 refine WL_th ⟨⟨hs.cell .t4, hs.old ht⟩, ?_⟩
 refine h_done (by kernel_rfl) ?_
 show W _ _ _ _ _ _
 refine W_forget (Ext.cd 6 rfl (Ext.nil _)) ?_
 refine W_sr ?_
 refine s_pu (p_move rfl) rfl ?_
 refine s_pu (p_iface rfl) rfl ?_
 refine s_pu (p_assign rfl) rfl ?_
 refine WL_th ?_
 refine W_ret ?_
 refine bl_ret ?_
 refine th_ret ?_
 refine ret_tmp (fn := Tryz.f19) rfl rfl ?_
 have hs := hs.front .t3
 have hs := hs.front .t1
 have hs := hs.front .t3
 have hs := hs.front .t3
 have hs := hs.seal_row (T := 116) rfl rfl (fun w S he => .map rfl he hTs)
 exact hs.first1.fresh ⟨_, rfl, rfl, by simp only [AT.shape, Rose.shape, hsh], fun _ h => by exfalso; have h3 : (11 : Int) ≤ 8 := h; omega⟩
theorem c_bare16 {Γ : Glob} (a b : Rose) (hBa : BuildOK Γ a) (hBb : BuildOK Γ b) (n : NRec) (hk : n.kind = 16) (tb : Nat) (pb : Nat) (w : World) (hG : Γ.p w) (ht : w.heap[tb]? = some (.cells (mkA 9 (tokC n.typ n.text n.origin pb)) 71 (0, 0))) (hR : RepN w (.mk n [a, b])) : Fresh Tryz.prog 19 [.agg (mkA 19 (nc n)), .pointer (some ⟨tb, 0, none⟩)] w (BuildR (.mk n [a, b])) := by
 have hs := St.startNone w
 have hRa : RepN w a := hR.all a (by simp [Rose.kids])
 have hRb : RepN w b := hR.all b (by simp [Rose.kids])
 obtain ⟨kind, typ, value, text, origin, flow, pl, pc, po, kv⟩ := n
 obtain rfl : kind = 16 := hk
 refine calls_W (args := [_, _]) Tryz.func19 rfl Tryz.ntmps19 rfl ?_
 refine W_sr ?_
 refine k_box hs rfl rfl ?_
 intro b2 _ hs
 refine s_pu (p_assign rfl) rfl ?_
 refine WL_th ?_
 refine W_seq ?_
 refine W_sr ?_
 refine s_pu (p_field rfl) rfl ?_
 refine k_ld hs rfl .head rfl rfl ?_
 refine WL_th ?_
 refine W_block ?_
 refine W_sr ?_
 refine s_pu (p_eqI rfl rfl) rfl ?_
 refine s_pu (p_assign rfl) rfl ?_
 refine WL_th ?_
 refine W_false rfl ?_
 refine W_sr ?_
 refine s_pu (p_eqI rfl rfl) rfl ?_
 refine s_pu (p_assign rfl) rfl ?_
 refine WL_th ?_
 refine W_false rfl ?_
 refine W_sr ?_
 refine s_pu (p_eqI rfl rfl) rfl ?_
 refine s_pu (p_assign rfl) rfl ?_
 refine WL_th ?_
 refine W_false rfl ?_
 refine W_sr ?_
 refine s_pu (p_eqI rfl rfl) rfl ?_
 refine s_pu (p_assign rfl) rfl ?_
 refine WL_th ?_
 refine W_false rfl ?_
 refine W_sr ?_
 refine s_pu (p_eqI rfl rfl) rfl ?_
 refine s_pu (p_assign rfl) rfl ?_
 refine WL_th ?_
 refine W_forget (Ext.cd 1 rfl (Ext.cd 2 rfl (Ext.cd 15 rfl (Ext.cd 36 rfl (Ext.nil _))))) ?_
 refine W_false rfl ?_
 refine W_sr ?_
 refine s_pu (p_eqI rfl rfl) rfl ?_
 refine s_pu (p_assign rfl) rfl ?_
 refine WL_th ?_
 refine W_false rfl ?_
 refine W_sr ?_
 refine s_pu (p_eqI rfl rfl) rfl ?_
 refine s_pu (p_assign rfl) rfl ?_
 refine WL_th ?_
 refine W_false rfl ?_
 refine W_sr ?_
 refine s_pu (p_eqI rfl rfl) rfl ?_
 refine s_pu (p_assign rfl) rfl ?_
 refine WL_th ?_
 refine W_false rfl ?_
 refine W_sr ?_
 refine s_pu (p_eqI rfl rfl) rfl ?_
 refine s_pu (p_assign rfl) rfl ?_
 refine WL_th ?_
 refine W_false rfl ?_
 refine W_sr ?_
 refine s_pu (p_eqI rfl rfl) rfl ?_
 refine s_pu (p_assign rfl) rfl ?_
 refine WL_th ?_
 refine W_false rfl ?_
 refine W_sr ?_
 refine s_pu (p_eqI rfl rfl) rfl ?_
 refine s_pu (p_assign rfl) rfl ?_
 refine WL_th ?_
 refine W_forget (Ext.cd 1 rfl (Ext.cd 2 rfl (Ext.cd 15 rfl (Ext.cd 89 rfl (Ext.nil _))))) ?_
 refine W_false rfl ?_
 refine W_sr ?_
 refine s_pu (p_eqI rfl rfl) rfl ?_
 refine s_pu (p_assign rfl) rfl ?_
 refine WL_th ?_
 refine W_false rfl ?_
 refine W_sr ?_
 refine s_pu (p_eqI rfl rfl) rfl ?_
 refine s_pu (p_assign rfl) rfl ?_
 refine WL_th ?_
 refine W_false rfl ?_
 refine W_sr ?_
 refine s_pu (p_eqI rfl rfl) rfl ?_
 refine s_pu (p_assign rfl) rfl ?_
 refine WL_th ?_
 refine W_true rfl ?_
 refine W_sr ?_
 refine s_pu (p_move rfl) rfl ?_
 refine k_fresh (c_Anchor _ _) hs (.cons rfl .nil) rfl ?_
 rintro _ _ _ ⟨nb, bb, nf, ng, rfl, rfl, hf0, hg1, hC⟩ hs _
 refine s_pu (p_assign rfl) rfl ?_
 refine WL_th ?_
 refine W_forget (Ext.cd 2 rfl (Ext.cd 8 rfl (Ext.nil _))) ?_
 refine W_seq ?_
 refine h_start (S := fun w => w.heap[b2]? = some (.cells (mkA 19 (nc ⟨16, typ, value, text, origin, flow, pl, pc, po, kv⟩)) 31 (0, 0))) (ls := #[false, false, false, false, false, false, false, false, false, false, false, false, false, false]) (n := 14) (by kernel_rfl) (by kernel_rfl) ?_
 have hs := hs.drew
 refine h_pu 0 rfl (ls' := #[true, false, false, false, false, false, false, false, false, false, false, false, false, false]) (by kernel_rfl) (fun _ _ _ h => h) rfl (hs.cell .t2) (p_move rfl) ?_
 refine h_pu 1 rfl (ls' := #[true, true, false, false, false, false, false, false, false, false, false, false, false, false]) (by kernel_rfl) (fun _ _ _ h => h) rfl (hs.cell .t2) (p_move rfl) ?_
 refine h_take 2 rfl (ls' := #[true, true, true, false, false, false, false, false, false, false, false, false, false, false]) (by kernel_rfl) (fun _ _ _ h => h) rfl (hs.cell .t2) (fun w hw => q_ldW rfl hw) ?_
 refine h_take 5 rfl (ls' := #[true, true, true, false, false, true, false, false, false, false, false, false, false, false]) (by kernel_rfl) (fun _ _ _ h => h) rfl (hs.cell .t2) (fun w hw => q_ldW rfl hw) ?_
 refine h_one 3 rfl (ls' := #[true, true, true, true, false, true, false, false, false, false, false, false, false, false]) (by kernel_rfl) ?_
 refine k_quiet (c_kid _ _ 0 a _ (hR.keep hs.keep.sames).kids rfl (hRa.one)) hs (.cons rfl (.cons rfl .nil)) rfl ?_
 rintro _ _ rfl hs _
 refine WL_th ⟨(hs.cell .t2), ?_⟩
 refine h_one 4 rfl (ls' := #[true, true, true, true, true, true, false, false, false, false, false, false, false, false]) (by kernel_rfl) ?_
 refine k_fresh (hBa _ (Γ.keep _ _ hG hs.keep.sames) (hRa.keep hs.keep.sames)) hs (.cons rfl .nil) rfl ?_
 rintro _ _ _ ⟨ta, rfl, rfl, hsha, hkeya⟩ hs _
 refine WL_th ⟨(hs.cell .t3), ?_⟩
 refine h_one 6 rfl (ls' := #[true, true, true, true, true, true, true, false, false, false, false, false, false, false]) (by kernel_rfl) ?_
 refine k_quiet (c_kid _ _ 1 b _ (hR.keep hs.keep.sames).kids rfl (hRb.one)) hs (.cons rfl (.cons rfl .nil)) rfl ?_
 rintro _ _ rfl hs _
 refine WL_th ⟨(hs.cell .t3), ?_⟩
 refine h_one 7 rfl (ls' := #[true, true, true, true, true, true, true, true, false, false, false, false, false, false]) (by kernel_rfl) ?_
 refine k_fresh (hBb _ (Γ.keep _ _ hG hs.keep.sames) (hRb.keep hs.keep.sames)) hs (.cons rfl .nil) rfl ?_
 rintro _ _ _ ⟨tb1, rfl, rfl, hshb, hkeyb⟩ hs _
 refine WL_th ⟨(hs.cell .t4), ?_⟩
 refine h_pu 8 rfl (ls' := #[true, true, true, true, true, true, true, true, true, false, false, false, false, false]) (by kernel_rfl) (fun _ _ _ h => h) rfl (hs.cell .t4) (p_nilCheck rfl) ?_
 refine h_pu 9 rfl (ls' := #[true, true, true, true, true, true, true, true, true, true, false, false, false, false]) (by kernel_rfl) (fun _ _ _ h => h) rfl (hs.cell .t4) (p_field rfl) ?_
 refine h_one 10 rfl (ls' := #[true, true, true, true, true, true, true, true, true, true, true, false, false, false]) (by kernel_rfl) ?_
 refine k_st hs rfl rfl (by repeat (first | exact .head | apply Put.tail)) rfl rfl ?_
 intro _ hs
 refine WL_th ⟨(hs.cell .t4), ?_⟩
 refine h_pu 11 rfl (ls' := #[true, true, true, true, true, true, true, true, true, true, true, true, false, false]) (by kernel_rfl) (fun _ _ _ h => h) rfl (hs.cell .t4) (p_nilCheck rfl) ?_
 refine h_pu 12 rfl (ls' := #[true, true, true, true, true, true, true, true, true, true, true, true, true, false]) (by kernel_rfl) (fun _ _ _ h => h) rfl (hs.cell .t4) (p_field rfl) ?_
 refine h_one 13 rfl (ls' := #[true, true, true, true, true, true, true, true, true, true, true, true, true, true]) (by kernel_rfl) ?_
 refine k_st hs rfl rfl (by repeat (first | exact .head | apply Put.tail)) rfl rfl ?_
 intro _ hs
 refine WL_th ⟨(hs.cell .t4), ?_⟩
 refine h_done (by kernel_rfl) ?_
 show W _ _ _ _ _ _
 refine W_forget (Ext.cd 8 rfl (Ext.nil _)) ?_
 refine W_sr ?_
 refine s_pu (p_move rfl) rfl ?_
 refine s_pu (p_iface rfl) rfl ?_
 refine s_pu (p_assign rfl) rfl ?_
 refine WL_th ?_
 refine W_ret ?_
 refine bl_ret ?_
 refine th_ret ?_
 refine ret_tmp (fn := Tryz.f19) rfl rfl ?_
 have hs := hs.front .head
 have hs := hs.front .t1
 have hs := hs.asts
 have hs := hs.front .head
 have hs := hs.front .t2
 have hs := hs.front .t2
 have hs := hs.seal_node (T := 128) hf0 hg1 (fun w S => .anchor rfl rfl)
 exact hs.first1.fresh ⟨_, rfl, rfl, by simp [AT.shape, ashapes, Rose.shape, rshapes, hsha, hshb], fun _ h => by exfalso; have h3 : (16 : Int) ≤ 8 := h; omega⟩
theorem c_bare17 {Γ : Glob} (a : Rose) (hBa : BuildOK Γ a) (n : NRec) (hk : n.kind = 17) (tb : Nat) (pb : Nat) (w : World) (hG : Γ.p w) (ht : w.heap[tb]? = some (.cells (mkA 9 (tokC n.typ n.text n.origin pb)) 71 (0, 0))) (hR : RepN w (.mk n [a])) : Fresh Tryz.prog 19 [.agg (mkA 19 (nc n)), .pointer (some ⟨tb, 0, none⟩)] w (BuildR (.mk n [a])) := by
 have hs := St.startNone w
 have hRa : RepN w a := hR.all a (by simp [Rose.kids])
 obtain ⟨kind, typ, value, text, origin, flow, pl, pc, po, kv⟩ := n
 obtain rfl : kind = 17 := hk
 refine calls_W (args := [_, _]) Tryz.func19 rfl Tryz.ntmps19 rfl ?_
 refine W_sr ?_
 refine k_box hs rfl rfl ?_
 intro b2 _ hs
 refine s_pu (p_assign rfl) rfl ?_
 refine WL_th ?_
 refine W_seq ?_
 refine W_sr ?_
 refine s_pu (p_field rfl) rfl ?_
 refine k_ld hs rfl .head rfl rfl ?_
 refine WL_th ?_
 refine W_block ?_
 refine W_sr ?_
 refine s_pu (p_eqI rfl rfl) rfl ?_
 refine s_pu (p_assign rfl) rfl ?_
 refine WL_th ?_
 refine W_false rfl ?_
 refine W_sr ?_
 refine s_pu (p_eqI rfl rfl) rfl ?_
 refine s_pu (p_assign rfl) rfl ?_
 refine WL_th ?_
 refine W_false rfl ?_
 refine W_sr ?_
 refine s_pu (p_eqI rfl rfl) rfl ?_
 refine s_pu (p_assign rfl) rfl ?_
 refine WL_th ?_
 refine W_false rfl ?_
 refine W_sr ?_
 refine s_pu (p_eqI rfl rfl) rfl ?_
 refine s_pu (p_assign rfl) rfl ?_
 refine WL_th ?_
 refine W_false rfl ?_
 refine W_sr ?_
 refine s_pu (p_eqI rfl rfl) rfl ?_
 refine s_pu (p_assign rfl) rfl ?_
 refine WL_th ?_
 refine W_forget (Ext.cd 1 rfl (Ext.cd 2 rfl (Ext.cd 15 rfl (Ext.cd 36 rfl (Ext.nil _))))) ?_
 refine W_false rfl ?_
 refine W_sr ?_
 refine s_pu (p_eqI rfl rfl) rfl ?_
 refine s_pu (p_assign rfl) rfl ?_
 refine WL_th ?_
 refine W_false rfl ?_
 refine W_sr ?_
 refine s_pu (p_eqI rfl rfl) rfl ?_
 refine s_pu (p_assign rfl) rfl ?_
 refine WL_th ?_
 refine W_false rfl ?_
 refine W_sr ?_
 refine s_pu (p_eqI rfl rfl) rfl ?_
 refine s_pu (p_assign rfl) rfl ?_
 refine WL_th ?_
 refine W_false rfl ?_
 refine W_sr ?_
 refine s_pu (p_eqI rfl rfl) rfl ?_
 refine s_pu (p_assign rfl) rfl ?_
 refine WL_th ?_
 refine W_false rfl ?_
 refine W_sr ?_
 refine s_pu (p_eqI rfl rfl) rfl ?_
 refine s_pu (p_assign rfl) rfl ?_
 refine WL_th ?_
 refine W_false rfl ?_
 refine W_sr ?_
 refine s_pu (p_eqI rfl rfl) rfl ?_
 refine s_pu (p_assign rfl) rfl ?_
 refine WL_th ?_
 refine W_forget (Ext.cd 1 rfl (Ext.cd 2 rfl (Ext.cd 15 rfl (Ext.cd 89 rfl (Ext.nil _))))) ?_
 refine W_false rfl ?_
 refine W_sr ?_
 refine s_pu (p_eqI rfl rfl) rfl ?_
 refine s_pu (p_assign rfl) rfl ?_
 refine WL_th ?_
 refine W_false rfl ?_
 refine W_sr ?_
 refine s_pu (p_eqI rfl rfl) rfl ?_
 refine s_pu (p_assign rfl) rfl ?_
 refine WL_th ?_
 refine W_false rfl ?_
 refine W_sr ?_
 refine s_pu (p_eqI rfl rfl) rfl ?_
 refine s_pu (p_assign rfl) rfl ?_
 refine WL_th ?_
 refine W_false rfl ?_
 refine W_sr ?_
 refine s_pu (p_eqI rfl rfl) rfl ?_
 refine s_pu (p_assign rfl) rfl ?_
 refine WL_th ?_
 refine W_true rfl ?_
 refine W_sr ?_
 refine s_pu (p_move rfl) rfl ?_
 refine k_fresh (c_Alias _ _) hs (.cons rfl .nil) rfl ?_
 rintro _ _ _ ⟨nb, bb, nf, ng, rfl, rfl, hf0, hg1, hC⟩ hs _
 refine s_pu (p_assign rfl) rfl ?_
 refine WL_th ?_
 refine W_forget (Ext.cd 2 rfl (Ext.cd 9 rfl (Ext.nil _))) ?_
 refine W_sr ?_
 refine s_pu (p_move rfl) rfl ?_
 refine k_ldW hs rfl .t2 rfl ?_
 refine k_quiet (c_kid _ _ 0 a _ (hR.keep hs.keep.sames).kids rfl (hRa.one)) hs (.cons rfl (.cons rfl .nil)) rfl ?_
 rintro _ _ rfl hs _
 refine k_fresh (hBa _ (Γ.keep _ _ hG hs.keep.sames) (hRa.keep hs.keep.sames)) hs (.cons rfl .nil) rfl ?_
 rintro _ _ _ ⟨ta, rfl, rfl, hsha, hkeya⟩ hs _
 refine s_pu (p_nilCheck rfl) rfl ?_
 refine s_pu (p_field rfl) rfl ?_
 refine k_st hs rfl rfl (by repeat (first | exact .head | apply Put.tail)) rfl rfl ?_
 intro _ hs
 refine WL_th ?_
 refine W_sr ?_
 refine s_pu (p_move rfl) rfl ?_
 refine s_pu (p_iface rfl) rfl ?_
 refine s_pu (p_assign rfl) rfl ?_
 refine WL_th ?_
 refine W_ret ?_
 refine bl_ret ?_
 refine th_ret ?_
 refine ret_tmp (fn := Tryz.f19) rfl rfl ?_
 have hs := hs.front .head
 have hs := hs.front .t2
 have hs := hs.front .t2
 have hs := hs.seal_node (T := 132) hf0 hg1 (fun w S => .alias rfl)
 exact hs.first1.fresh ⟨_, rfl, rfl, by simp [AT.shape, ashapes, Rose.shape, rshapes, hsha], fun _ h => by exfalso; have h3 : (17 : Int) ≤ 8 := h; omega⟩
theorem c_bare19 {Γ : Glob} (a : Rose) (hBa : BuildOK Γ a) (n : NRec) (hk : n.kind = 19) (tb : Nat) (pb : Nat) (w : World) (hG : Γ.p w) (ht : w.heap[tb]? = some (.cells (mkA 9 (tokC n.typ n.text n.origin pb)) 71 (0, 0))) (hR : RepN w (.mk n [a])) : Fresh Tryz.prog 19 [.agg (mkA 19 (nc n)), .pointer (some ⟨tb, 0, none⟩)] w (BuildR (.mk n [a])) := by
 have hs := St.startNone w
 have hRa : RepN w a := hR.all a (by simp [Rose.kids])
 obtain ⟨kind, typ, value, text, origin, flow, pl, pc, po, kv⟩ := n
 obtain rfl : kind = 19 := hk
 refine calls_W (args := [_, _]) Tryz.func19 rfl Tryz.ntmps19 rfl ?_
 refine W_sr ?_
 refine k_box hs rfl rfl ?_
 intro b2 _ hs
 refine s_pu (p_assign rfl) rfl ?_
 refine WL_th ?_
 refine W_seq ?_
 refine W_sr ?_
 refine s_pu (p_field rfl) rfl ?_
 refine k_ld hs rfl .head rfl rfl ?_
 refine WL_th ?_
 refine W_block ?_
 refine W_sr ?_
 refine s_pu (p_eqI rfl rfl) rfl ?_
 refine s_pu (p_assign rfl) rfl ?_
 refine WL_th ?_
 refine W_false rfl ?_
 refine W_sr ?_
 refine s_pu (p_eqI rfl rfl) rfl ?_
 refine s_pu (p_assign rfl) rfl ?_
 refine WL_th ?_
 refine W_false rfl ?_
 refine W_sr ?_
 refine s_pu (p_eqI rfl rfl) rfl ?_
 refine s_pu (p_assign rfl) rfl ?_
 refine WL_th ?_
 refine W_false rfl ?_
 refine W_sr ?_
 refine s_pu (p_eqI rfl rfl) rfl ?_
 refine s_pu (p_assign rfl) rfl ?_
 refine WL_th ?_
 refine W_false rfl ?_
 refine W_sr ?_
 refine s_pu (p_eqI rfl rfl) rfl ?_
 refine s_pu (p_assign rfl) rfl ?_
 refine WL_th ?_
 refine W_forget (Ext.cd 1 rfl (Ext.cd 2 rfl (Ext.cd 15 rfl (Ext.cd 36 rfl (Ext.nil _))))) ?_
 refine W_false rfl ?_
 refine W_sr ?_
 refine s_pu (p_eqI rfl rfl) rfl ?_
 refine s_pu (p_assign rfl) rfl ?_
 refine WL_th ?_
 refine W_false rfl ?_
 refine W_sr ?_
 refine s_pu (p_eqI rfl rfl) rfl ?_
 refine s_pu (p_assign rfl) rfl ?_
 refine WL_th ?_
 refine W_false rfl ?_
 refine W_sr ?_
 refine s_pu (p_eqI rfl rfl) rfl ?_
 refine s_pu (p_assign rfl) rfl ?_
 refine WL_th ?_
 refine W_false rfl ?_
 refine W_sr ?_
 refine s_pu (p_eqI rfl rfl) rfl ?_
 refine s_pu (p_assign rfl) rfl ?_
 refine WL_th ?_
 refine W_false rfl ?_
 refine W_sr ?_
 refine s_pu (p_eqI rfl rfl) rfl ?_
 refine s_pu (p_assign rfl) rfl ?_
 refine WL_th ?_
 refine W_false rfl ?_
 refine W_sr ?_
 refine s_pu (p_eqI rfl rfl) rfl ?_
 refine s_pu (p_assign rfl) rfl ?_
 refine WL_th ?_
 refine W_forget (Ext.cd 1 rfl (Ext.cd 2 rfl (Ext.cd 15 rfl (Ext.cd 89 rfl (Ext.nil _))))) ?_
 refine W_false rfl ?_
 refine W_sr ?_
 refine s_pu (p_eqI rfl rfl) rfl ?_
 refine s_pu (p_assign rfl) rfl ?_
 refine WL_th ?_
 refine W_false rfl ?_
 refine W_sr ?_
 refine s_pu (p_eqI rfl rfl) rfl ?_
 refine s_pu (p_assign rfl) rfl ?_
 refine WL_th ?_
 refine W_false rfl ?_
 refine W_sr ?_
 refine s_pu (p_eqI rfl rfl) rfl ?_
 refine s_pu (p_assign rfl) rfl ?_
 refine WL_th ?_
 refine W_false rfl ?_
 refine W_sr ?_
 refine s_pu (p_eqI rfl rfl) rfl ?_
 refine s_pu (p_assign rfl) rfl ?_
 refine WL_th ?_
 refine W_false rfl ?_
 refine W_sr ?_
 refine s_pu (p_eqI rfl rfl) rfl ?_
 refine s_pu (p_assign rfl) rfl ?_
 refine WL_th ?_
 refine W_false rfl ?_
 refine W_sr ?_
 refine s_pu (p_eqI rfl rfl) rfl ?_
 refine s_pu (p_assign rfl) rfl ?_
 refine WL_th ?_
 refine W_forget (Ext.cd 1 rfl (Ext.cd 2 rfl (Ext.cd 15 rfl (Ext.cd 175 rfl (Ext.nil _))))) ?_
 refine W_true rfl ?_
 refine W_sr ?_
 refine s_pu (p_move rfl) rfl ?_
 refine k_fresh (c_Tag _ _) hs (.cons rfl .nil) rfl ?_
 rintro _ _ _ ⟨nb, bb, nf, ng, rfl, rfl, hf0, hg1, hC⟩ hs _
 refine s_pu (p_assign rfl) rfl ?_
 refine WL_th ?_
 refine W_sr ?_
 refine s_pu (p_move rfl) rfl ?_
 refine k_ldW hs rfl .t2 rfl ?_
 refine k_quiet (c_kid _ _ 0 a _ (hR.keep hs.keep.sames).kids rfl (hRa.one)) hs (.cons rfl (.cons rfl .nil)) rfl ?_
 rintro _ _ rfl hs _
 refine k_fresh (hBa _ (Γ.keep _ _ hG hs.keep.sames) (hRa.keep hs.keep.sames)) hs (.cons rfl .nil) rfl ?_
 rintro _ _ _ ⟨ta, rfl, rfl, hsha, hkeya⟩ hs _
 refine s_pu (p_nilCheck rfl) rfl ?_
 refine s_pu (p_field rfl) rfl ?_
 refine k_st hs rfl rfl (by repeat (first | exact .head | apply Put.tail)) rfl rfl ?_
 intro _ hs
 refine WL_th ?_
 refine W_forget (Ext.cd 12 rfl (Ext.nil _)) ?_
 refine W_sr ?_
 refine s_pu (p_move rfl) rfl ?_
 refine s_pu (p_iface rfl) rfl ?_
 refine s_pu (p_assign rfl) rfl ?_
 refine WL_th ?_
 refine W_ret ?_
 refine bl_ret ?_
 refine th_ret ?_
 refine ret_tmp (fn := Tryz.f19) rfl rfl ?_
 have hs := hs.front .head
 have hs := hs.front .t2
 have hs := hs.front .t2
 have hs := hs.seal_node (T := 139) hf0 hg1 (fun w S => .tag rfl)
 exact hs.first1.fresh ⟨_, rfl, rfl, by simp [AT.shape, ashapes, Rose.shape, rshapes, hsha], fun _ h => by exfalso; have h3 : (19 : Int) ≤ 8 := h; omega⟩
end Go.Proofs.YtmalghopogngoaaGreatDoor
set_option linter.unusedVariables false
set_option linter.unusedSimpArgs false
set_option maxRecDepth 4000
namespace Go.Proofs.YtmalghopogngoaaGreatDoor
open Go Go.RowKit MW
def BareOK (Γ : Glob) (r : Rose) : Prop := ∀ tb pb w, Γ.p w → w.heap[tb]? = some (.cells (mkA 9 (tokC r.n.typ r.n.text r.n.origin pb)) 71 (0, 0)) → RepN w r → Fresh Tryz.prog 19 [.agg (mkA 19 (nc r.n)), .pointer (some ⟨tb, 0, none⟩)] w (BuildR r)
theorem c_build1 {Γ : Glob} (r : Rose) (hB : BareOK Γ r) : BuildOK Γ r := by
 intro w hG hR
 have hs := St.startNone w
 obtain ⟨⟨kind, typ, value, text, origin, flow, pl, pc, po, kv⟩, ks⟩ := r
 refine calls_W (args := [_]) Tryz.func11 rfl Tryz.ntmps11 rfl ?_
 refine W_sr ?_
 refine k_box hs rfl rfl ?_
 intro b1 _ hs
 refine s_pu (p_assign rfl) rfl ?_
 refine WL_th ?_
 refine W_sr ?_
 refine s_pu (p_field rfl) rfl ?_
 refine k_ldA hs rfl .head rfl rfl ?_
 refine k_fresh (c_position _ _ _ _ _ _) hs (.cons rfl .nil) rfl ?_
 rintro _ _ _ ⟨p8, pf8, rfl, rfl⟩ hs _
 refine s_pu (p_assign rfl) rfl ?_
 refine WL_th ?_
 refine W_sr ?_
 refine k_ldW hs rfl .t1 rfl ?_
 refine s_pu (p_field rfl) rfl ?_
 refine k_ld hs rfl .t1 rfl rfl ?_
 refine s_pu (p_field rfl) rfl ?_
 refine k_ld hs rfl .t1 rfl rfl ?_
 refine s_pu (p_field rfl) rfl ?_
 refine k_ld hs rfl .t1 rfl rfl ?_
 refine s_pu (p_move rfl) rfl ?_
 refine s_pu (p_st (.one rfl rfl rfl (.one rfl rfl rfl (.one rfl rfl rfl (.one rfl rfl rfl .nil))))) rfl ?_
 refine k_box hs rfl rfl ?_
 intro b18 _ hs
 have hs := hs.imp .head (pt_to (g := tokC typ text origin p8) (by repeat (first | exact below_zero | refine below_succ ?_ rfl)))
 refine k_fresh (hB _ _ _ (Γ.keep _ _ hG hs.keep.sames) (hs.cell .head) (hR.keep hs.keep.sames)) hs (.cons rfl (.cons rfl .nil)) rfl ?_
 rintro _ _ _ ⟨t, rfl, rfl, hsh, hkey⟩ hs _
 refine s_pu (p_assign rfl) rfl ?_
 refine WL_th ?_
 refine W_forget (Ext.cd 1 rfl (Ext.cd 3 rfl (Ext.cd 4 rfl (Ext.nil _)))) ?_
 refine W_seq ?_
 refine W_sr ?_
 refine s_pu (p_field rfl) rfl ?_
 refine k_ld hs rfl .t3 rfl rfl ?_
 refine s_pu (p_move rfl) rfl ?_
 refine k_quiet (c_comments _ _) hs (.cons rfl (.cons rfl .nil)) rfl ?_
 rintro _ _ rfl hs _
 refine s_pu (p_assign rfl) rfl ?_
 refine WL_th ?_
 refine W_sr ?_
 refine s_pu (p_move rfl) rfl ?_
 refine s_pu (p_neN (by kernel_rfl) rfl) rfl ?_
 refine s_pu (p_move rfl) rfl ?_
 refine WL_cutb 4 30 [4, 5] (fun b => b = false) ?_ ?_
 ·
  refine s_bool 26 rfl (fun hb26 => ?_) (fun hb26 => ?_)
  ·
   refine g_take rfl rfl rfl ?_
   refine s_pu (p_field rfl) rfl ?_
   refine g_take rfl rfl rfl ?_
   refine k_ld hs rfl .t3 rfl rfl ?_
   refine g_take rfl rfl rfl ?_
   refine s_pu (p_neI rfl rfl) rfl ?_
   refine s_pu (p_pickT rfl rfl) rfl ?_
   refine WL_th ⟨rfl, _, ?_, Ext.cons rfl (ext_kc rfl (ext_kc rfl ext_kn))⟩
   cases hb26
  ·
   refine g_skip rfl rfl rfl rfl rfl ?_
   refine g_skip rfl rfl rfl rfl rfl ?_
   refine g_skip rfl rfl rfl rfl rfl ?_
   refine s_pu (p_pickF rfl rfl) rfl ?_
   refine WL_th ⟨rfl, _, ?_, Ext.cons rfl (ext_kc rfl (ext_kc rfl ext_kn))⟩
   rfl
 ·
  intro b30 hb30
  subst hb30
  refine WL_forget (Ext.cd 4 rfl (Ext.cd 5 rfl (Ext.cd 30 rfl (Ext.nil _)))) ?_
  show WL _ _ _ [] _ _ _
  refine WL_th ?_
  refine W_false rfl ?_
  refine W_skip_th ?_
  refine W_sr ?_
  refine s_pu (p_move rfl) rfl ?_
  refine s_pu (p_assign rfl) rfl ?_
  refine WL_th ?_
  refine W_ret ?_
  refine ret_tmp (fn := Tryz.f11) rfl rfl ?_
  exact hs.first1.fresh ⟨t, rfl, rfl, hsh, hkey⟩
theorem one_le_size (r : Rose) : 1 ≤ r.size := by cases r; simp [Rose.size]
theorem mem_size {k : Rose} : ∀ {ks : List Rose}, k ∈ ks → k.size ≤ rsizes ks
 | a :: l, h => by
  rcases List.mem_cons.1 h with rfl | h
  ·
   simp [rsizes]
  ·
   have := mem_size h
   simp only [rsizes]
   omega
theorem length_size : ∀ (ks : List Rose), ks.length ≤ rsizes ks
 | [] => by simp [rsizes]
 | a :: l => by
  have := length_size l
  have := one_le_size a
  simp only [rsizes, List.length_cons]
  omega
theorem c_build {Γ : Glob} {T : ByteArray → Prop} (hn : ToNumberOK Γ T) (hpb : ParseBoolOK) : ∀ (n : Nat) (r : Rose), r.size ≤ n → n ≤ 1000000 → Good T r → BuildOK Γ r := by
 intro n
 induction n with
 | zero => intro r h _ _; have := one_le_size r; omega
 | succ n ih =>
  intro r hsz hn1 hg
  refine c_build1 r fun tb pb w hG ht hR => ?_
  cases hg with
  | leaf h =>
   rcases h with h | h | h | h
   ·
    exact c_bare2 _ h _ _ _ hG ht hR
   ·
    exact c_bare6 _ h _ _ _ hG ht hR
   ·
    exact c_bare7 _ h _ _ _ hG ht hR
   ·
    exact c_bare8 _ h _ _ _ hG ht hR
  | bool h hT => exact c_bare3 hpb _ hT h _ _ _ hG ht hR
  | num h hT =>
   rcases h with h | h
   ·
    exact c_bare4 hn _ hT h _ _ _ hG ht hR
   ·
    exact c_bare5 hn _ hT h _ _ _ hG ht hR
  | lit h => exact c_bare10 _ _ h _ _ _ hG ht hR
  | map h hk hall =>
   rename_i m ks
   simp only [Rose.size] at hsz
   have hl := length_size ks
   refine c_bare11 ks (by omega) (fun k hmem => ?_) _ h _ _ _ hG ht hR
   have hks := mem_size hmem
   have hgk := hall k hmem
   have hk13 := hk k hmem
   cases hgk with
   | pair h13 ha1 ha2 hga hgb =>
    simp only [Rose.size, rsizes] at hks
    exact c_pair _ _ _ ha1 ha2 (ih _ (by omega) (by omega) hga) (ih _ (by omega) (by omega) hgb)
   | leaf h => simp only [Rose.n] at hk13; omega
   | bool h _ => simp only [Rose.n] at hk13; omega
   | num h _ => simp only [Rose.n] at hk13; omega
   | lit h => simp only [Rose.n] at hk13; omega
   | map h _ _ => simp only [Rose.n] at hk13; omega
   | seq h _ => simp only [Rose.n] at hk13; omega
   | anchor h _ _ => simp only [Rose.n] at hk13; omega
   | alias h _ => simp only [Rose.n] at hk13; omega
   | tag h _ => simp only [Rose.n] at hk13; omega
  | pair h ha1 ha2 hga hgb =>
   simp only [Rose.size, rsizes] at hsz
   exact c_bare13 _ _ ha1 ha2 (ih _ (by omega) (by omega) hga) (ih _ (by omega) (by omega) hgb) _ h _ _ _ hG ht hR
  | seq h hall =>
   rename_i m ks
   simp only [Rose.size] at hsz
   have hl := length_size ks
   exact c_bare14 ks (by omega) (fun k hmem => ih _ (by have := mem_size hmem; omega) (by omega) (hall k hmem)) _ h _ _ _ hG ht hR
  | anchor h hga hgb =>
   simp only [Rose.size, rsizes] at hsz
   exact c_bare16 _ _ (ih _ (by omega) (by omega) hga) (ih _ (by omega) (by omega) hgb) _ h _ _ _ hG ht hR
  | alias h hga =>
   simp only [Rose.size, rsizes] at hsz
   exact c_bare17 _ (ih _ (by omega) (by omega) hga) _ h _ _ _ hG ht hR
  | tag h hga =>
   simp only [Rose.size, rsizes] at hsz
   exact c_bare19 _ (ih _ (by omega) (by omega) hga) _ h _ _ _ hG ht hR
end Go.Proofs.YtmalghopogngoaaGreatDoor
set_option linter.unusedVariables false
set_option linter.unusedSimpArgs false
set_option maxRecDepth 4000
namespace Go.Proofs.YtmalghopogngoaaGreatDoor
open Go Go.RowKit MW
def visA (nb : Nat) : Value := .agg (mkA 1 (cl [.pointer (some ⟨nb, 0, none⟩)]))
theorem c_Visit (nb : Nat) (v : Value) (l : List Value) (T : Nat) (u : Value) (hl : l.length ≤ 1000000) : MW.Spec Tryz.prog 192 [visA nb, .iface T u].toArray [pt nb 50 1 (cl [v]), rowL v 48 l] fun r G => ∃ v', r = .iface 80 (visA nb) ∧ G = [pt nb 50 1 (cl [v']), rowL v' 48 (l ++ [.iface T u])] := by
 intro w S hsat
 have hs := St.start hsat
 refine calls_W (args := [_, _]) Tryz.func192 rfl Tryz.ntmps192 rfl ?_
 refine W_sr ?_
 refine k_box hs rfl rfl ?_
 intro b2 _ hs
 refine s_pu (p_assign rfl) rfl ?_
 refine WL_th ?_
 refine W_seq ?_
 refine W_sr ?_
 refine s_pu (p_move rfl) rfl ?_
 refine s_pu (p_eqNil rfl) rfl ?_
 refine WL_th ?_
 refine W_false rfl ?_
 refine W_skip_th ?_
 refine W_seq ?_
 refine h_start (S := fun w => w.heap[b2]? = some (.cells (mkA 1 (cl [.pointer (some ⟨nb, 0, none⟩)])) 80 (0, 0))) (ls := #[false, false, false, false, false, false, false, false, false, false, false]) (n := 11) (by kernel_rfl) (by kernel_rfl) ?_
 have hs := hs.drew
 refine h_pu 0 rfl (ls' := #[true, false, false, false, false, false, false, false, false, false, false]) (by kernel_rfl) (fun _ _ _ h => h) rfl (hs.cell .head) (p_field rfl) ?_
 refine h_take 1 rfl (ls' := #[true, true, false, false, false, false, false, false, false, false, false]) (by kernel_rfl) (fun _ _ _ h => h) rfl (hs.cell .head) (fun w hw => q_ld rfl hw rfl) ?_
 refine h_pu 2 rfl (ls' := #[true, true, true, false, false, false, false, false, false, false, false]) (by kernel_rfl) (fun _ _ _ h => h) rfl (hs.cell .head) (p_field rfl) ?_
 refine h_take 3 rfl (ls' := #[true, true, true, true, false, false, false, false, false, false, false]) (by kernel_rfl) (fun _ _ _ h => h) rfl (hs.cell .head) (fun w hw => q_ld rfl hw rfl) ?_
 refine h_pu 4 rfl (ls' := #[true, true, true, true, true, false, false, false, false, false, false]) (by kernel_rfl) (fun _ _ _ h => h) rfl (hs.cell .head) (p_nilCheck rfl) ?_
 refine h_pu 6 rfl (ls' := #[true, true, true, true, true, false, true, false, false, false, false]) (by kernel_rfl) (fun _ _ _ h => h) rfl (hs.cell .head) (p_move rfl) ?_
 refine h_two 5 7 rfl rfl (ls' := #[true, true, true, true, true, true, true, false, false, false, false]) (ls'' := #[true, true, true, true, true, false, true, true, false, false, false]) (by kernel_rfl) ?_ ?_
 ·
  refine k_ld hs rfl .t1 rfl rfl ?_
  refine WL_th ⟨(hs.cell .head), ?_⟩
  refine h_one 7 rfl (ls' := #[true, true, true, true, true, true, true, true, false, false, false]) (by kernel_rfl) ?_
  refine k_bs hs (.one rfl rfl rfl .nil) rfl rfl rfl ?_
  intro b14 _ hs
  refine WL_th ⟨(hs.cell .t1), ?_⟩
  refine h_one 8 rfl (ls' := #[true, true, true, true, true, true, true, true, true, false, false]) (by kernel_rfl) ?_
  have hs := hs.front .t3
  refine k_app (n := l.length) hs rfl rfl .head rfl (by intro i hi; have h0 : i = 0 := (by omega); subst h0; rfl) (by omega) (by omega) rfl ?_
  intro v15 _ hs
  refine WL_th ⟨(hs.cell .t2), ?_⟩
  refine h_pu 9 rfl (ls' := #[true, true, true, true, true, true, true, true, true, true, false]) (by kernel_rfl) (fun _ _ _ h => h) rfl (hs.cell .t2) (p_nilCheck rfl) ?_
  refine h_one 10 rfl (ls' := #[true, true, true, true, true, true, true, true, true, true, true]) (by kernel_rfl) ?_
  refine k_st hs rfl rfl .t3 (row_one (hs.pick .head)) rfl ?_
  intro _ hs
  refine WL_th ⟨(hs.cell .t2), ?_⟩
  refine h_done (by kernel_rfl) ?_
  show W _ _ _ _ _ _
  refine W_forget (Ext.cd 2 rfl (Ext.nil _)) ?_
  refine W_sr ?_
  refine k_ldW hs rfl .t2 rfl ?_
  refine s_pu (p_iface rfl) rfl ?_
  refine s_pu (p_assign rfl) rfl ?_
  refine WL_th ?_
  refine W_ret ?_
  refine ret_tmp (fn := Tryz.f192) rfl rfl ?_
  have hs := hs.front .head
  have hs := hs.front .t3
  have hs := St.cut (G1 := [_, _]) hs
  have hs := hs.imp .head (pt_to (g := cl [v15]) (by repeat (first | exact below_zero | refine below_succ ?_ rfl)))
  have hs := hs.imp .t1 rowL_snoc
  exact hs.spec ⟨_, rfl, rfl⟩
 ·
  refine k_bs hs (.one rfl rfl rfl .nil) rfl rfl rfl ?_
  intro b14 _ hs
  refine WL_th ⟨(hs.cell .t1), ?_⟩
  refine h_one 5 rfl (ls' := #[true, true, true, true, true, true, true, true, false, false, false]) (by kernel_rfl) ?_
  refine k_ld hs rfl .t2 rfl rfl ?_
  refine WL_th ⟨(hs.cell .t1), ?_⟩
  refine h_one 8 rfl (ls' := #[true, true, true, true, true, true, true, true, true, false, false]) (by kernel_rfl) ?_
  have hs := hs.front .t3
  refine k_app (n := l.length) hs rfl rfl .head rfl (by intro i hi; have h0 : i = 0 := (by omega); subst h0; rfl) (by omega) (by omega) rfl ?_
  intro v15 _ hs
  refine WL_th ⟨(hs.cell .t2), ?_⟩
  refine h_pu 9 rfl (ls' := #[true, true, true, true, true, true, true, true, true, true, false]) (by kernel_rfl) (fun _ _ _ h => h) rfl (hs.cell .t2) (p_nilCheck rfl) ?_
  refine h_one 10 rfl (ls' := #[true, true, true, true, true, true, true, true, true, true, true]) (by kernel_rfl) ?_
  refine k_st hs rfl rfl .t3 (row_one (hs.pick .head)) rfl ?_
  intro _ hs
  refine WL_th ⟨(hs.cell .t2), ?_⟩
  refine h_done (by kernel_rfl) ?_
  show W _ _ _ _ _ _
  refine W_forget (Ext.cd 2 rfl (Ext.nil _)) ?_
  refine W_sr ?_
  refine k_ldW hs rfl .t2 rfl ?_
  refine s_pu (p_iface rfl) rfl ?_
  refine s_pu (p_assign rfl) rfl ?_
  refine WL_th ?_
  refine W_ret ?_
  refine ret_tmp (fn := Tryz.f192) rfl rfl ?_
  have hs := hs.front .head
  have hs := hs.front .t3
  have hs := St.cut (G1 := [_, _]) hs
  have hs := hs.imp .head (pt_to (g := cl [v15]) (by repeat (first | exact below_zero | refine below_succ ?_ rfl)))
  have hs := hs.imp .t1 rowL_snoc
  exact hs.spec ⟨_, rfl, rfl⟩
theorem c_walkComment (bb : Nat) (g : Nat → Value) (x : Value) (w : World) (hb : w.heap[bb]? = some (.cells (mkA 3 g) 191 (0, 0))) (hg : g 1 = .pointer none) : Quiet Tryz.prog 57 [x, .pointer (some ⟨bb, 0, none⟩)] w fun _ => True := by
 have hs := St.startNone w
 refine calls_W (args := [_, _]) Tryz.func57 rfl Tryz.ntmps57 rfl ?_
 refine W_seq ?_
 refine W_sr ?_
 refine s_pu (p_move rfl) rfl ?_
 refine s_pu (p_eqN (by kernel_rfl) rfl) rfl ?_
 refine WL_th ?_
 refine W_false rfl ?_
 refine W_skip_th ?_
 refine W_seq ?_
 refine W_sr ?_
 refine s_pu (p_move rfl) rfl ?_
 refine s_pu (p_nilCheck rfl) rfl ?_
 refine s_pu (p_field rfl) rfl ?_
 refine kq_ldv (o := 1) (hs.old hb) hg rfl (by omega) rfl ?_
 refine s_pu (p_eqN (by kernel_rfl) rfl) rfl ?_
 refine WL_th ?_
 refine W_true rfl ?_
 refine W_ret ?_
 refine th_ret ?_
 refine ret_none (fn := Tryz.f57) rfl ?_
 exact ⟨trivial, hs.keep0⟩
end Go.Proofs.YtmalghopogngoaaGreatDoor
set_option linter.unusedVariables false
set_option linter.unusedSimpArgs false
set_option maxRecDepth 4000
namespace Go.Proofs.YtmalghopogngoaaGreatDoor
open Go Go.RowKit MW
def WalkOK (t : AT) : Prop := ∀ (w0 : World) (S0 : Foot), RepA w0 S0 t → ∀ nb v l, l.length + t.size ≤ 1000000 →
 MW.Spec Tryz.prog 21 [.iface 80 (visA nb), t.val].toArray [snap w0 S0, pt nb 50 1 (cl [v]), rowL v 48 l] fun _ G => ∃ v', G = [snap w0 S0, pt nb 50 1 (cl [v']), rowL v' 48 (l ++ t.pre.map AT.val)]
theorem c_walk96 (b : Nat) : WalkOK (.mk 96 b []) := by
 intro w0 S0 hR nb v l hl w S hsat
 have hs := St.start hsat
 obtain ⟨n, T', f, bb, g, hSb, hSbb, h1, hf0, h3, hg1, hB⟩ := hR.node
 change Below1 w0 S0 f 96 n [] at hB
 have hn : 2 ≤ n := by cases hB; assumption
 have hl1 : l.length + 1 ≤ 1000000 := hl
 refine calls_W (args := [_, _]) Tryz.func21 rfl Tryz.ntmps21 rfl ?_
 refine W_seq ?_
 refine W_sr ?_
 refine s_pu (p_move rfl) rfl ?_
 refine s_pu (p_move rfl) rfl ?_
 have hs := hs.front .head
 have hs := hs.front .t2
 have hs := hs.front .t2
 refine k_specI (T := 80) (f := 192) (by kernel_rfl) [pt nb 50 1 (cl [v]), rowL v 48 l] (c_Visit nb v l 96 (.pointer (some ⟨b, 0, none⟩)) (by omega)) hs rfl (.cons rfl .nil) rfl ?_
 rintro _ _ _ ⟨v1, rfl, rfl⟩ hs
 refine s_pu (p_assign rfl) rfl ?_
 refine WL_th ?_
 refine W_sr ?_
 refine s_pu (p_move rfl) rfl ?_
 refine s_pu (p_eqNil rfl) rfl ?_
 refine WL_th ?_
 refine W_false rfl ?_
 refine W_skip_th ?_
 refine W_sr ?_
 refine s_pu (p_move rfl) rfl ?_
 refine WL_th ?_
 refine W_block ?_
 refine ta_no rfl rfl rfl ?_
 refine ta_no rfl rfl rfl ?_
 refine W_forget (Ext.cd 0 rfl (Ext.cd 34 rfl (Ext.nil _))) ?_
 refine ta_no rfl rfl rfl ?_
 refine ta_no rfl rfl rfl ?_
 refine ta_no rfl rfl rfl ?_
 refine ta_no rfl rfl rfl ?_
 refine W_forget (Ext.cd 0 rfl (Ext.cd 34 rfl (Ext.nil _))) ?_
 refine ta_yes rfl rfl ?_
 refine W_sr ?_
 refine s_pu (p_assign rfl) rfl ?_
 refine WL_th ?_
 refine W_reg ?_
 refine s_pu (p_move rfl) rfl ?_
 refine s_pu (p_move rfl) rfl ?_
 refine s_pu (p_nilCheck rfl) rfl ?_
 refine s_pu (p_field rfl) rfl ?_
 have hsm := hs.same .t2
 refine kq_ldv (o := 0) (hsm _ _ hSb h1) hf0 rfl (by omega) rfl ?_
 have hsm := hs.same .t2
 refine k_quiet (c_walkComment _ _ _ _ (hsm _ _ hSbb h3) hg1) hs (.cons rfl (.cons rfl .nil)) rfl ?_
 rintro _ _ _ hs _
 refine WL_nil ?_
 refine end_none (fn := Tryz.f21) rfl ?_
 have hs := hs.front .t1
 have hs := hs.front .t1
 have hs := hs.front .t2
 have hs := St.cut (G1 := [_, _, _]) hs
 exact hs.spec ⟨v1, rfl⟩
theorem c_walk98 (b : Nat) : WalkOK (.mk 98 b []) := by
 intro w0 S0 hR nb v l hl w S hsat
 have hs := St.start hsat
 obtain ⟨n, T', f, bb, g, hSb, hSbb, h1, hf0, h3, hg1, hB⟩ := hR.node
 change Below1 w0 S0 f 98 n [] at hB
 have hn : 2 ≤ n := by cases hB; assumption
 have hl1 : l.length + 1 ≤ 1000000 := hl
 refine calls_W (args := [_, _]) Tryz.func21 rfl Tryz.ntmps21 rfl ?_
 refine W_seq ?_
 refine W_sr ?_
 refine s_pu (p_move rfl) rfl ?_
 refine s_pu (p_move rfl) rfl ?_
 have hs := hs.front .head
 have hs := hs.front .t2
 have hs := hs.front .t2
 refine k_specI (T := 80) (f := 192) (by kernel_rfl) [pt nb 50 1 (cl [v]), rowL v 48 l] (c_Visit nb v l 98 (.pointer (some ⟨b, 0, none⟩)) (by omega)) hs rfl (.cons rfl .nil) rfl ?_
 rintro _ _ _ ⟨v1, rfl, rfl⟩ hs
 refine s_pu (p_assign rfl) rfl ?_
 refine WL_th ?_
 refine W_sr ?_
 refine s_pu (p_move rfl) rfl ?_
 refine s_pu (p_eqNil rfl) rfl ?_
 refine WL_th ?_
 refine W_false rfl ?_
 refine W_skip_th ?_
 refine W_sr ?_
 refine s_pu (p_move rfl) rfl ?_
 refine WL_th ?_
 refine W_block ?_
 refine ta_no rfl rfl rfl ?_
 refine ta_no rfl rfl rfl ?_
 refine W_forget (Ext.cd 0 rfl (Ext.cd 34 rfl (Ext.nil _))) ?_
 refine ta_yes rfl rfl ?_
 refine W_sr ?_
 refine s_pu (p_assign rfl) rfl ?_
 refine WL_th ?_
 refine W_reg ?_
 refine s_pu (p_move rfl) rfl ?_
 refine s_pu (p_move rfl) rfl ?_
 refine s_pu (p_nilCheck rfl) rfl ?_
 refine s_pu (p_field rfl) rfl ?_
 have hsm := hs.same .t2
 refine kq_ldv (o := 0) (hsm _ _ hSb h1) hf0 rfl (by omega) rfl ?_
 have hsm := hs.same .t2
 refine k_quiet (c_walkComment _ _ _ _ (hsm _ _ hSbb h3) hg1) hs (.cons rfl (.cons rfl .nil)) rfl ?_
 rintro _ _ _ hs _
 refine WL_nil ?_
 refine end_none (fn := Tryz.f21) rfl ?_
 have hs := hs.front .t1
 have hs := hs.front .t1
 have hs := hs.front .t2
 have hs := St.cut (G1 := [_, _, _]) hs
 exact hs.spec ⟨v1, rfl⟩
theorem c_walk100 (b : Nat) : WalkOK (.mk 100 b []) := by
 intro w0 S0 hR nb v l hl w S hsat
 have hs := St.start hsat
 obtain ⟨n, T', f, bb, g, hSb, hSbb, h1, hf0, h3, hg1, hB⟩ := hR.node
 change Below1 w0 S0 f 100 n [] at hB
 have hn : 2 ≤ n := by cases hB; assumption
 have hl1 : l.length + 1 ≤ 1000000 := hl
 refine calls_W (args := [_, _]) Tryz.func21 rfl Tryz.ntmps21 rfl ?_
 refine W_seq ?_
 refine W_sr ?_
 refine s_pu (p_move rfl) rfl ?_
 refine s_pu (p_move rfl) rfl ?_
 have hs := hs.front .head
 have hs := hs.front .t2
 have hs := hs.front .t2
 refine k_specI (T := 80) (f := 192) (by kernel_rfl) [pt nb 50 1 (cl [v]), rowL v 48 l] (c_Visit nb v l 100 (.pointer (some ⟨b, 0, none⟩)) (by omega)) hs rfl (.cons rfl .nil) rfl ?_
 rintro _ _ _ ⟨v1, rfl, rfl⟩ hs
 refine s_pu (p_assign rfl) rfl ?_
 refine WL_th ?_
 refine W_sr ?_
 refine s_pu (p_move rfl) rfl ?_
 refine s_pu (p_eqNil rfl) rfl ?_
 refine WL_th ?_
 refine W_false rfl ?_
 refine W_skip_th ?_
 refine W_sr ?_
 refine s_pu (p_move rfl) rfl ?_
 refine WL_th ?_
 refine W_block ?_
 refine ta_no rfl rfl rfl ?_
 refine ta_no rfl rfl rfl ?_
 refine W_forget (Ext.cd 0 rfl (Ext.cd 34 rfl (Ext.nil _))) ?_
 refine ta_no rfl rfl rfl ?_
 refine ta_yes rfl rfl ?_
 refine W_sr ?_
 refine s_pu (p_assign rfl) rfl ?_
 refine WL_th ?_
 refine W_reg ?_
 refine s_pu (p_move rfl) rfl ?_
 refine s_pu (p_move rfl) rfl ?_
 refine s_pu (p_nilCheck rfl) rfl ?_
 refine s_pu (p_field rfl) rfl ?_
 have hsm := hs.same .t2
 refine kq_ldv (o := 0) (hsm _ _ hSb h1) hf0 rfl (by omega) rfl ?_
 have hsm := hs.same .t2
 refine k_quiet (c_walkComment _ _ _ _ (hsm _ _ hSbb h3) hg1) hs (.cons rfl (.cons rfl .nil)) rfl ?_
 rintro _ _ _ hs _
 refine WL_nil ?_
 refine end_none (fn := Tryz.f21) rfl ?_
 have hs := hs.front .t1
 have hs := hs.front .t1
 have hs := hs.front .t2
 have hs := St.cut (G1 := [_, _, _]) hs
 exact hs.spec ⟨v1, rfl⟩
theorem c_walk102 (b : Nat) : WalkOK (.mk 102 b []) := by
 intro w0 S0 hR nb v l hl w S hsat
 have hs := St.start hsat
 obtain ⟨n, T', f, bb, g, hSb, hSbb, h1, hf0, h3, hg1, hB⟩ := hR.node
 change Below1 w0 S0 f 102 n [] at hB
 have hn : 2 ≤ n := by cases hB; assumption
 have hl1 : l.length + 1 ≤ 1000000 := hl
 refine calls_W (args := [_, _]) Tryz.func21 rfl Tryz.ntmps21 rfl ?_
 refine W_seq ?_
 refine W_sr ?_
 refine s_pu (p_move rfl) rfl ?_
 refine s_pu (p_move rfl) rfl ?_
 have hs := hs.front .head
 have hs := hs.front .t2
 have hs := hs.front .t2
 refine k_specI (T := 80) (f := 192) (by kernel_rfl) [pt nb 50 1 (cl [v]), rowL v 48 l] (c_Visit nb v l 102 (.pointer (some ⟨b, 0, none⟩)) (by omega)) hs rfl (.cons rfl .nil) rfl ?_
 rintro _ _ _ ⟨v1, rfl, rfl⟩ hs
 refine s_pu (p_assign rfl) rfl ?_
 refine WL_th ?_
 refine W_sr ?_
 refine s_pu (p_move rfl) rfl ?_
 refine s_pu (p_eqNil rfl) rfl ?_
 refine WL_th ?_
 refine W_false rfl ?_
 refine W_skip_th ?_
 refine W_sr ?_
 refine s_pu (p_move rfl) rfl ?_
 refine WL_th ?_
 refine W_block ?_
 refine ta_no rfl rfl rfl ?_
 refine ta_no rfl rfl rfl ?_
 refine W_forget (Ext.cd 0 rfl (Ext.cd 34 rfl (Ext.nil _))) ?_
 refine ta_no rfl rfl rfl ?_
 refine ta_no rfl rfl rfl ?_
 refine ta_no rfl rfl rfl ?_
 refine ta_no rfl rfl rfl ?_
 refine W_forget (Ext.cd 0 rfl (Ext.cd 34 rfl (Ext.nil _))) ?_
 refine ta_no rfl rfl rfl ?_
 refine ta_yes rfl rfl ?_
 refine W_sr ?_
 refine s_pu (p_assign rfl) rfl ?_
 refine WL_th ?_
 refine W_reg ?_
 refine s_pu (p_move rfl) rfl ?_
 refine s_pu (p_move rfl) rfl ?_
 refine s_pu (p_nilCheck rfl) rfl ?_
 refine s_pu (p_field rfl) rfl ?_
 have hsm := hs.same .t2
 refine kq_ldv (o := 0) (hsm _ _ hSb h1) hf0 rfl (by omega) rfl ?_
 have hsm := hs.same .t2
 refine k_quiet (c_walkComment _ _ _ _ (hsm _ _ hSbb h3) hg1) hs (.cons rfl (.cons rfl .nil)) rfl ?_
 rintro _ _ _ hs _
 refine WL_nil ?_
 refine end_none (fn := Tryz.f21) rfl ?_
 have hs := hs.front .t1
 have hs := hs.front .t1
 have hs := hs.front .t2
 have hs := St.cut (G1 := [_, _, _]) hs
 exact hs.spec ⟨v1, rfl⟩
theorem c_walk104 (b : Nat) : WalkOK (.mk 104 b []) := by
 intro w0 S0 hR nb v l hl w S hsat
 have hs := St.start hsat
 obtain ⟨n, T', f, bb, g, hSb, hSbb, h1, hf0, h3, hg1, hB⟩ := hR.node
 change Below1 w0 S0 f 104 n [] at hB
 have hn : 2 ≤ n := by cases hB; assumption
 have hl1 : l.length + 1 ≤ 1000000 := hl
 refine calls_W (args := [_, _]) Tryz.func21 rfl Tryz.ntmps21 rfl ?_
 refine W_seq ?_
 refine W_sr ?_
 refine s_pu (p_move rfl) rfl ?_
 refine s_pu (p_move rfl) rfl ?_
 have hs := hs.front .head
 have hs := hs.front .t2
 have hs := hs.front .t2
 refine k_specI (T := 80) (f := 192) (by kernel_rfl) [pt nb 50 1 (cl [v]), rowL v 48 l] (c_Visit nb v l 104 (.pointer (some ⟨b, 0, none⟩)) (by omega)) hs rfl (.cons rfl .nil) rfl ?_
 rintro _ _ _ ⟨v1, rfl, rfl⟩ hs
 refine s_pu (p_assign rfl) rfl ?_
 refine WL_th ?_
 refine W_sr ?_
 refine s_pu (p_move rfl) rfl ?_
 refine s_pu (p_eqNil rfl) rfl ?_
 refine WL_th ?_
 refine W_false rfl ?_
 refine W_skip_th ?_
 refine W_sr ?_
 refine s_pu (p_move rfl) rfl ?_
 refine WL_th ?_
 refine W_block ?_
 refine ta_no rfl rfl rfl ?_
 refine ta_no rfl rfl rfl ?_
 refine W_forget (Ext.cd 0 rfl (Ext.cd 34 rfl (Ext.nil _))) ?_
 refine ta_no rfl rfl rfl ?_
 refine ta_no rfl rfl rfl ?_
 refine ta_no rfl rfl rfl ?_
 refine ta_no rfl rfl rfl ?_
 refine W_forget (Ext.cd 0 rfl (Ext.cd 34 rfl (Ext.nil _))) ?_
 refine ta_no rfl rfl rfl ?_
 refine ta_no rfl rfl rfl ?_
 refine ta_yes rfl rfl ?_
 refine W_sr ?_
 refine s_pu (p_assign rfl) rfl ?_
 refine WL_th ?_
 refine W_reg ?_
 refine s_pu (p_move rfl) rfl ?_
 refine s_pu (p_move rfl) rfl ?_
 refine s_pu (p_nilCheck rfl) rfl ?_
 refine s_pu (p_field rfl) rfl ?_
 have hsm := hs.same .t2
 refine kq_ldv (o := 0) (hsm _ _ hSb h1) hf0 rfl (by omega) rfl ?_
 have hsm := hs.same .t2
 refine k_quiet (c_walkComment _ _ _ _ (hsm _ _ hSbb h3) hg1) hs (.cons rfl (.cons rfl .nil)) rfl ?_
 rintro _ _ _ hs _
 refine WL_nil ?_
 refine end_none (fn := Tryz.f21) rfl ?_
 have hs := hs.front .t1
 have hs := hs.front .t1
 have hs := hs.front .t2
 have hs := St.cut (G1 := [_, _, _]) hs
 exact hs.spec ⟨v1, rfl⟩
theorem c_walk106 (b : Nat) : WalkOK (.mk 106 b []) := by
 intro w0 S0 hR nb v l hl w S hsat
 have hs := St.start hsat
 obtain ⟨n, T', f, bb, g, hSb, hSbb, h1, hf0, h3, hg1, hB⟩ := hR.node
 change Below1 w0 S0 f 106 n [] at hB
 have hn : 2 ≤ n := by cases hB; assumption
 have hl1 : l.length + 1 ≤ 1000000 := hl
 refine calls_W (args := [_, _]) Tryz.func21 rfl Tryz.ntmps21 rfl ?_
 refine W_seq ?_
 refine W_sr ?_
 refine s_pu (p_move rfl) rfl ?_
 refine s_pu (p_move rfl) rfl ?_
 have hs := hs.front .head
 have hs := hs.front .t2
 have hs := hs.front .t2
 refine k_specI (T := 80) (f := 192) (by kernel_rfl) [pt nb 50 1 (cl [v]), rowL v 48 l] (c_Visit nb v l 106 (.pointer (some ⟨b, 0, none⟩)) (by omega)) hs rfl (.cons rfl .nil) rfl ?_
 rintro _ _ _ ⟨v1, rfl, rfl⟩ hs
 refine s_pu (p_assign rfl) rfl ?_
 refine WL_th ?_
 refine W_sr ?_
 refine s_pu (p_move rfl) rfl ?_
 refine s_pu (p_eqNil rfl) rfl ?_
 refine WL_th ?_
 refine W_false rfl ?_
 refine W_skip_th ?_
 refine W_sr ?_
 refine s_pu (p_move rfl) rfl ?_
 refine WL_th ?_
 refine W_block ?_
 refine ta_no rfl rfl rfl ?_
 refine ta_no rfl rfl rfl ?_
 refine W_forget (Ext.cd 0 rfl (Ext.cd 34 rfl (Ext.nil _))) ?_
 refine ta_no rfl rfl rfl ?_
 refine ta_no rfl rfl rfl ?_
 refine ta_yes rfl rfl ?_
 refine W_sr ?_
 refine s_pu (p_assign rfl) rfl ?_
 refine WL_th ?_
 refine W_reg ?_
 refine s_pu (p_move rfl) rfl ?_
 refine s_pu (p_move rfl) rfl ?_
 refine s_pu (p_nilCheck rfl) rfl ?_
 refine s_pu (p_field rfl) rfl ?_
 have hsm := hs.same .t2
 refine kq_ldv (o := 0) (hsm _ _ hSb h1) hf0 rfl (by omega) rfl ?_
 have hsm := hs.same .t2
 refine k_quiet (c_walkComment _ _ _ _ (hsm _ _ hSbb h3) hg1) hs (.cons rfl (.cons rfl .nil)) rfl ?_
 rintro _ _ _ hs _
 refine WL_nil ?_
 refine end_none (fn := Tryz.f21) rfl ?_
 have hs := hs.front .t1
 have hs := hs.front .t1
 have hs := hs.front .t2
 have hs := St.cut (G1 := [_, _, _]) hs
 exact hs.spec ⟨v1, rfl⟩
theorem c_walk143 (b : Nat) : WalkOK (.mk 143 b []) := by
 intro w0 S0 hR nb v l hl w S hsat
 have hs := St.start hsat
 obtain ⟨n, T', f, bb, g, hSb, hSbb, h1, hf0, h3, hg1, hB⟩ := hR.node
 change Below1 w0 S0 f 143 n [] at hB
 have hn : 2 ≤ n := by cases hB; assumption
 have hl1 : l.length + 1 ≤ 1000000 := hl
 refine calls_W (args := [_, _]) Tryz.func21 rfl Tryz.ntmps21 rfl ?_
 refine W_seq ?_
 refine W_sr ?_
 refine s_pu (p_move rfl) rfl ?_
 refine s_pu (p_move rfl) rfl ?_
 have hs := hs.front .head
 have hs := hs.front .t2
 have hs := hs.front .t2
 refine k_specI (T := 80) (f := 192) (by kernel_rfl) [pt nb 50 1 (cl [v]), rowL v 48 l] (c_Visit nb v l 143 (.pointer (some ⟨b, 0, none⟩)) (by omega)) hs rfl (.cons rfl .nil) rfl ?_
 rintro _ _ _ ⟨v1, rfl, rfl⟩ hs
 refine s_pu (p_assign rfl) rfl ?_
 refine WL_th ?_
 refine W_sr ?_
 refine s_pu (p_move rfl) rfl ?_
 refine s_pu (p_eqNil rfl) rfl ?_
 refine WL_th ?_
 refine W_false rfl ?_
 refine W_skip_th ?_
 refine W_sr ?_
 refine s_pu (p_move rfl) rfl ?_
 refine WL_th ?_
 refine W_block ?_
 refine ta_no rfl rfl rfl ?_
 refine ta_yes rfl rfl ?_
 refine W_sr ?_
 refine s_pu (p_assign rfl) rfl ?_
 refine WL_th ?_
 refine W_forget (Ext.cd 0 rfl (Ext.cd 5 rfl (Ext.nil _))) ?_
 refine W_reg ?_
 refine s_pu (p_move rfl) rfl ?_
 refine s_pu (p_move rfl) rfl ?_
 refine s_pu (p_nilCheck rfl) rfl ?_
 refine s_pu (p_field rfl) rfl ?_
 have hsm := hs.same .t2
 refine kq_ldv (o := 0) (hsm _ _ hSb h1) hf0 rfl (by omega) rfl ?_
 have hsm := hs.same .t2
 refine k_quiet (c_walkComment _ _ _ _ (hsm _ _ hSbb h3) hg1) hs (.cons rfl (.cons rfl .nil)) rfl ?_
 rintro _ _ _ hs _
 refine WL_nil ?_
 refine end_none (fn := Tryz.f21) rfl ?_
 have hs := hs.front .t1
 have hs := hs.front .t1
 have hs := hs.front .t2
 have hs := St.cut (G1 := [_, _, _]) hs
 exact hs.spec ⟨v1, rfl⟩
theorem c_walk110 (b : Nat) (kb : Nat) (kk : List AT) (hWk : WalkOK (.mk 106 kb kk)) : WalkOK (.mk 110 b [.mk 106 kb kk]) := by
 intro w0 S0 hR nb v l hl w S hsat
 have hs := St.start hsat
 obtain ⟨n, T', f, bb, g, hSb, hSbb, h1, hf0, h3, hg1, hB⟩ := hR.node
 change Below1 w0 S0 f 110 n [.mk 106 kb kk] at hB
 have hRk : RepA w0 S0 (.mk 106 kb kk) := hR.all _ (by simp [AT.kids])
 simp only [AT.size, asizes] at hl
 obtain ⟨hf2, rfl⟩ : f 2 = .pointer (some ⟨kb, 0, none⟩) ∧ n = 3 := by cases hB with | lit a b => exact ⟨b, rfl⟩
 refine calls_W (args := [_, _]) Tryz.func21 rfl Tryz.ntmps21 rfl ?_
 refine W_seq ?_
 refine W_sr ?_
 refine s_pu (p_move rfl) rfl ?_
 refine s_pu (p_move rfl) rfl ?_
 have hs := hs.front .head
 have hs := hs.front .t2
 have hs := hs.front .t2
 refine k_specI (T := 80) (f := 192) (by kernel_rfl) [pt nb 50 1 (cl [v]), rowL v 48 l] (c_Visit nb v l 110 (.pointer (some ⟨b, 0, none⟩)) (by omega)) hs rfl (.cons rfl .nil) rfl ?_
 rintro _ _ _ ⟨v1, rfl, rfl⟩ hs
 refine s_pu (p_assign rfl) rfl ?_
 refine WL_th ?_
 refine W_sr ?_
 refine s_pu (p_move rfl) rfl ?_
 refine s_pu (p_eqNil rfl) rfl ?_
 refine WL_th ?_
 refine W_false rfl ?_
 refine W_skip_th ?_
 refine W_sr ?_
 refine s_pu (p_move rfl) rfl ?_
 refine WL_th ?_
 refine W_block ?_
 refine ta_no rfl rfl rfl ?_
 refine ta_no rfl rfl rfl ?_
 refine W_forget (Ext.cd 0 rfl (Ext.cd 34 rfl (Ext.nil _))) ?_
 refine ta_no rfl rfl rfl ?_
 refine ta_no rfl rfl rfl ?_
 refine ta_no rfl rfl rfl ?_
 refine ta_no rfl rfl rfl ?_
 refine W_forget (Ext.cd 0 rfl (Ext.cd 34 rfl (Ext.nil _))) ?_
 refine ta_no rfl rfl rfl ?_
 refine ta_no rfl rfl rfl ?_
 refine ta_no rfl rfl rfl ?_
 refine ta_yes rfl rfl ?_
 refine W_sr ?_
 refine s_pu (p_assign rfl) rfl ?_
 refine WL_th ?_
 refine W_forget (Ext.cd 0 rfl (Ext.cd 13 rfl (Ext.nil _))) ?_
 refine W_sr ?_
 refine s_pu (p_move rfl) rfl ?_
 refine s_pu (p_move rfl) rfl ?_
 refine s_pu (p_nilCheck rfl) rfl ?_
 refine s_pu (p_field rfl) rfl ?_
 have hsm := hs.same .t2
 refine kq_ldv (o := 0) (hsm _ _ hSb h1) hf0 rfl (by omega) rfl ?_
 have hsm := hs.same .t2
 refine k_quiet (c_walkComment _ _ _ _ (hsm _ _ hSbb h3) hg1) hs (.cons rfl (.cons rfl .nil)) rfl ?_
 rintro _ _ _ hs _
 refine WL_th ?_
 refine W_reg ?_
 refine s_pu (p_move rfl) rfl ?_
 refine s_pu (p_move rfl) rfl ?_
 refine s_pu (p_nilCheck rfl) rfl ?_
 refine s_pu (p_field rfl) rfl ?_
 have hsm := hs.same .t2
 refine kq_ldv (o := 2) (hsm _ _ hSb h1) hf2 rfl (by omega) rfl ?_
 refine s_pu (p_iface rfl) rfl ?_
 have hs := hs.front .t1
 have hs := hs.front .t1
 have hs := hs.front .t2
 refine k_spec [snap w0 S0, pt nb 50 1 (cl [v1]), rowL v1 48 (l ++ [AT.val (.mk 110 b [.mk 106 kb kk])])] (hWk w0 S0 hRk nb v1 (l ++ [AT.val (.mk 110 b [.mk 106 kb kk])]) (by simp [pre_length, AT.size]; omega)) hs (.cons rfl (.cons rfl .nil)) rfl ?_
 rintro _ _ _ ⟨v2, rfl⟩ hs
 refine WL_nil ?_
 refine end_none (fn := Tryz.f21) rfl ?_
 have hs := hs.front .t2
 have hs := hs.front .t2
 have hs := hs.front .t2
 have hs := St.cut (G1 := [_, _, _]) hs
 exact hs.spec ⟨v2, by simp [pre_mk, pres]⟩
theorem c_walk139 (b : Nat) (k : AT) (hWk : WalkOK k) : WalkOK (.mk 139 b [k]) := by
 intro w0 S0 hR nb v l hl w S hsat
 have hs := St.start hsat
 obtain ⟨n, T', f, bb, g, hSb, hSbb, h1, hf0, h3, hg1, hB⟩ := hR.node
 change Below1 w0 S0 f 139 n [k] at hB
 have hRk : RepA w0 S0 k := hR.all k (by simp [AT.kids])
 simp only [AT.size, asizes] at hl
 have := one_le_asize k
 obtain ⟨hf2, rfl⟩ : f 3 = k.val ∧ n = 4 := by cases hB; exact ⟨by assumption, rfl⟩
 refine calls_W (args := [_, _]) Tryz.func21 rfl Tryz.ntmps21 rfl ?_
 refine W_seq ?_
 refine W_sr ?_
 refine s_pu (p_move rfl) rfl ?_
 refine s_pu (p_move rfl) rfl ?_
 have hs := hs.front .head
 have hs := hs.front .t2
 have hs := hs.front .t2
 refine k_specI (T := 80) (f := 192) (by kernel_rfl) [pt nb 50 1 (cl [v]), rowL v 48 l] (c_Visit nb v l 139 (.pointer (some ⟨b, 0, none⟩)) (by omega)) hs rfl (.cons rfl .nil) rfl ?_
 rintro _ _ _ ⟨v1, rfl, rfl⟩ hs
 refine s_pu (p_assign rfl) rfl ?_
 refine WL_th ?_
 refine W_sr ?_
 refine s_pu (p_move rfl) rfl ?_
 refine s_pu (p_eqNil rfl) rfl ?_
 refine WL_th ?_
 refine W_false rfl ?_
 refine W_skip_th ?_
 refine W_sr ?_
 refine s_pu (p_move rfl) rfl ?_
 refine WL_th ?_
 refine W_block ?_
 refine ta_no rfl rfl rfl ?_
 refine ta_no rfl rfl rfl ?_
 refine W_forget (Ext.cd 0 rfl (Ext.cd 34 rfl (Ext.nil _))) ?_
 refine ta_no rfl rfl rfl ?_
 refine ta_no rfl rfl rfl ?_
 refine ta_no rfl rfl rfl ?_
 refine ta_no rfl rfl rfl ?_
 refine W_forget (Ext.cd 0 rfl (Ext.cd 34 rfl (Ext.nil _))) ?_
 refine ta_no rfl rfl rfl ?_
 refine ta_no rfl rfl rfl ?_
 refine ta_no rfl rfl rfl ?_
 refine ta_no rfl rfl rfl ?_
 refine W_forget (Ext.cd 0 rfl (Ext.cd 34 rfl (Ext.nil _))) ?_
 refine ta_no rfl rfl rfl ?_
 refine ta_yes rfl rfl ?_
 refine W_sr ?_
 refine s_pu (p_assign rfl) rfl ?_
 refine WL_th ?_
 refine W_sr ?_
 refine s_pu (p_move rfl) rfl ?_
 refine s_pu (p_move rfl) rfl ?_
 refine s_pu (p_nilCheck rfl) rfl ?_
 refine s_pu (p_field rfl) rfl ?_
 have hsm := hs.same .t2
 refine kq_ldv (o := 0) (hsm _ _ hSb h1) hf0 rfl (by omega) rfl ?_
 have hsm := hs.same .t2
 refine k_quiet (c_walkComment _ _ _ _ (hsm _ _ hSbb h3) hg1) hs (.cons rfl (.cons rfl .nil)) rfl ?_
 rintro _ _ _ hs _
 refine WL_th ?_
 refine W_forget (Ext.cd 0 rfl (Ext.cd 17 rfl (Ext.nil _))) ?_
 refine W_reg ?_
 refine s_pu (p_move rfl) rfl ?_
 refine s_pu (p_move rfl) rfl ?_
 refine s_pu (p_nilCheck rfl) rfl ?_
 refine s_pu (p_field rfl) rfl ?_
 have hsm := hs.same .t2
 refine kq_ldv (o := 3) (hsm _ _ hSb h1) hf2 rfl (by omega) rfl ?_
 have hs := hs.front .t1
 have hs := hs.front .t1
 have hs := hs.front .t2
 refine k_spec [snap w0 S0, pt nb 50 1 (cl [v1]), rowL v1 48 (l ++ [AT.val (.mk 139 b [k])])] (hWk w0 S0 hRk nb v1 (l ++ [AT.val (.mk 139 b [k])]) (by simp [pre_length, AT.size]; omega)) hs (.cons rfl (.cons rfl .nil)) rfl ?_
 rintro _ _ _ ⟨v2, rfl⟩ hs
 refine WL_nil ?_
 refine end_none (fn := Tryz.f21) rfl ?_
 have hs := hs.front .t2
 have hs := hs.front .t2
 have hs := hs.front .t2
 have hs := St.cut (G1 := [_, _, _]) hs
 exact hs.spec ⟨v2, by simp [pre_mk, pres]⟩
theorem c_walk132 (b : Nat) (k : AT) (hWk : WalkOK k) : WalkOK (.mk 132 b [k]) := by
 intro w0 S0 hR nb v l hl w S hsat
 have hs := St.start hsat
 obtain ⟨n, T', f, bb, g, hSb, hSbb, h1, hf0, h3, hg1, hB⟩ := hR.node
 change Below1 w0 S0 f 132 n [k] at hB
 have hRk : RepA w0 S0 k := hR.all k (by simp [AT.kids])
 simp only [AT.size, asizes] at hl
 have := one_le_asize k
 obtain ⟨hf2, rfl⟩ : f 2 = k.val ∧ n = 3 := by cases hB; exact ⟨by assumption, rfl⟩
 refine calls_W (args := [_, _]) Tryz.func21 rfl Tryz.ntmps21 rfl ?_
 refine W_seq ?_
 refine W_sr ?_
 refine s_pu (p_move rfl) rfl ?_
 refine s_pu (p_move rfl) rfl ?_
 have hs := hs.front .head
 have hs := hs.front .t2
 have hs := hs.front .t2
 refine k_specI (T := 80) (f := 192) (by kernel_rfl) [pt nb 50 1 (cl [v]), rowL v 48 l] (c_Visit nb v l 132 (.pointer (some ⟨b, 0, none⟩)) (by omega)) hs rfl (.cons rfl .nil) rfl ?_
 rintro _ _ _ ⟨v1, rfl, rfl⟩ hs
 refine s_pu (p_assign rfl) rfl ?_
 refine WL_th ?_
 refine W_sr ?_
 refine s_pu (p_move rfl) rfl ?_
 refine s_pu (p_eqNil rfl) rfl ?_
 refine WL_th ?_
 refine W_false rfl ?_
 refine W_skip_th ?_
 refine W_sr ?_
 refine s_pu (p_move rfl) rfl ?_
 refine WL_th ?_
 refine W_block ?_
 refine ta_no rfl rfl rfl ?_
 refine ta_no rfl rfl rfl ?_
 refine W_forget (Ext.cd 0 rfl (Ext.cd 34 rfl (Ext.nil _))) ?_
 refine ta_no rfl rfl rfl ?_
 refine ta_no rfl rfl rfl ?_
 refine ta_no rfl rfl rfl ?_
 refine ta_no rfl rfl rfl ?_
 refine W_forget (Ext.cd 0 rfl (Ext.cd 34 rfl (Ext.nil _))) ?_
 refine ta_no rfl rfl rfl ?_
 refine ta_no rfl rfl rfl ?_
 refine ta_no rfl rfl rfl ?_
 refine ta_no rfl rfl rfl ?_
 refine W_forget (Ext.cd 0 rfl (Ext.cd 34 rfl (Ext.nil _))) ?_
 refine ta_no rfl rfl rfl ?_
 refine ta_no rfl rfl rfl ?_
 refine ta_no rfl rfl rfl ?_
 refine ta_no rfl rfl rfl ?_
 refine W_forget (Ext.cd 0 rfl (Ext.cd 34 rfl (Ext.nil _))) ?_
 refine ta_no rfl rfl rfl ?_
 refine ta_no rfl rfl rfl ?_
 refine ta_no rfl rfl rfl ?_
 refine ta_no rfl rfl rfl ?_
 refine W_forget (Ext.cd 0 rfl (Ext.cd 34 rfl (Ext.nil _))) ?_
 refine ta_yes rfl rfl ?_
 refine W_sr ?_
 refine s_pu (p_assign rfl) rfl ?_
 refine WL_th ?_
 refine W_sr ?_
 refine s_pu (p_move rfl) rfl ?_
 refine s_pu (p_move rfl) rfl ?_
 refine s_pu (p_nilCheck rfl) rfl ?_
 refine s_pu (p_field rfl) rfl ?_
 have hsm := hs.same .t2
 refine kq_ldv (o := 0) (hsm _ _ hSb h1) hf0 rfl (by omega) rfl ?_
 have hsm := hs.same .t2
 refine k_quiet (c_walkComment _ _ _ _ (hsm _ _ hSbb h3) hg1) hs (.cons rfl (.cons rfl .nil)) rfl ?_
 rintro _ _ _ hs _
 refine WL_th ?_
 refine W_reg ?_
 refine s_pu (p_move rfl) rfl ?_
 refine s_pu (p_move rfl) rfl ?_
 refine s_pu (p_nilCheck rfl) rfl ?_
 refine s_pu (p_field rfl) rfl ?_
 have hsm := hs.same .t2
 refine kq_ldv (o := 2) (hsm _ _ hSb h1) hf2 rfl (by omega) rfl ?_
 have hs := hs.front .t1
 have hs := hs.front .t1
 have hs := hs.front .t2
 refine k_spec [snap w0 S0, pt nb 50 1 (cl [v1]), rowL v1 48 (l ++ [AT.val (.mk 132 b [k])])] (hWk w0 S0 hRk nb v1 (l ++ [AT.val (.mk 132 b [k])]) (by simp [pre_length, AT.size]; omega)) hs (.cons rfl (.cons rfl .nil)) rfl ?_
 rintro _ _ _ ⟨v2, rfl⟩ hs
 refine WL_nil ?_
 refine end_none (fn := Tryz.f21) rfl ?_
 have hs := hs.front .t2
 have hs := hs.front .t2
 have hs := hs.front .t2
 have hs := St.cut (G1 := [_, _, _]) hs
 exact hs.spec ⟨v2, by simp [pre_mk, pres]⟩
theorem c_walk126 (b : Nat) (k j : AT) (hWk : WalkOK k) (hWj : WalkOK j) : WalkOK (.mk 126 b [k, j]) := by
 intro w0 S0 hR nb v l hl w S hsat
 have hs := St.start hsat
 obtain ⟨n, T', f, bb, g, hSb, hSbb, h1, hf0, h3, hg1, hB⟩ := hR.node
 change Below1 w0 S0 f 126 n [k, j] at hB
 have hRk : RepA w0 S0 k := hR.all k (by simp [AT.kids])
 have hRj : RepA w0 S0 j := hR.all j (by simp [AT.kids])
 simp only [AT.size, asizes] at hl
 have := one_le_asize k
 have := one_le_asize j
 obtain ⟨hf2, hf3, rfl⟩ : f 3 = k.val ∧ f 4 = j.val ∧ n = 7 := by cases hB; exact ⟨by assumption, by assumption, rfl⟩
 refine calls_W (args := [_, _]) Tryz.func21 rfl Tryz.ntmps21 rfl ?_
 refine W_seq ?_
 refine W_sr ?_
 refine s_pu (p_move rfl) rfl ?_
 refine s_pu (p_move rfl) rfl ?_
 have hs := hs.front .head
 have hs := hs.front .t2
 have hs := hs.front .t2
 refine k_specI (T := 80) (f := 192) (by kernel_rfl) [pt nb 50 1 (cl [v]), rowL v 48 l] (c_Visit nb v l 126 (.pointer (some ⟨b, 0, none⟩)) (by omega)) hs rfl (.cons rfl .nil) rfl ?_
 rintro _ _ _ ⟨v1, rfl, rfl⟩ hs
 refine s_pu (p_assign rfl) rfl ?_
 refine WL_th ?_
 refine W_sr ?_
 refine s_pu (p_move rfl) rfl ?_
 refine s_pu (p_eqNil rfl) rfl ?_
 refine WL_th ?_
 refine W_false rfl ?_
 refine W_skip_th ?_
 refine W_sr ?_
 refine s_pu (p_move rfl) rfl ?_
 refine WL_th ?_
 refine W_block ?_
 refine ta_no rfl rfl rfl ?_
 refine ta_no rfl rfl rfl ?_
 refine W_forget (Ext.cd 0 rfl (Ext.cd 34 rfl (Ext.nil _))) ?_
 refine ta_no rfl rfl rfl ?_
 refine ta_no rfl rfl rfl ?_
 refine ta_no rfl rfl rfl ?_
 refine ta_no rfl rfl rfl ?_
 refine W_forget (Ext.cd 0 rfl (Ext.cd 34 rfl (Ext.nil _))) ?_
 refine ta_no rfl rfl rfl ?_
 refine ta_no rfl rfl rfl ?_
 refine ta_no rfl rfl rfl ?_
 refine ta_no rfl rfl rfl ?_
 refine W_forget (Ext.cd 0 rfl (Ext.cd 34 rfl (Ext.nil _))) ?_
 refine ta_no rfl rfl rfl ?_
 refine ta_no rfl rfl rfl ?_
 refine ta_no rfl rfl rfl ?_
 refine ta_no rfl rfl rfl ?_
 refine W_forget (Ext.cd 0 rfl (Ext.cd 34 rfl (Ext.nil _))) ?_
 refine ta_no rfl rfl rfl ?_
 refine ta_yes rfl rfl ?_
 refine W_sr ?_
 refine s_pu (p_assign rfl) rfl ?_
 refine WL_th ?_
 refine W_sr ?_
 refine s_pu (p_move rfl) rfl ?_
 refine s_pu (p_move rfl) rfl ?_
 refine s_pu (p_nilCheck rfl) rfl ?_
 refine s_pu (p_field rfl) rfl ?_
 have hsm := hs.same .t2
 refine kq_ldv (o := 0) (hsm _ _ hSb h1) hf0 rfl (by omega) rfl ?_
 have hsm := hs.same .t2
 refine k_quiet (c_walkComment _ _ _ _ (hsm _ _ hSbb h3) hg1) hs (.cons rfl (.cons rfl .nil)) rfl ?_
 rintro _ _ _ hs _
 refine WL_th ?_
 refine W_forget (Ext.cd 0 rfl (Ext.cd 23 rfl (Ext.nil _))) ?_
 refine W_sr ?_
 refine s_pu (p_move rfl) rfl ?_
 refine s_pu (p_move rfl) rfl ?_
 refine s_pu (p_nilCheck rfl) rfl ?_
 refine s_pu (p_field rfl) rfl ?_
 have hsm := hs.same .t2
 refine kq_ldv (o := 3) (hsm _ _ hSb h1) hf2 rfl (by omega) rfl ?_
 have hs := hs.front .t1
 have hs := hs.front .t1
 have hs := hs.front .t2
 refine k_spec [snap w0 S0, pt nb 50 1 (cl [v1]), rowL v1 48 (l ++ [AT.val (.mk 126 b [k, j])])] (hWk w0 S0 hRk nb v1 (l ++ [AT.val (.mk 126 b [k, j])]) (by simp [pre_length, AT.size]; omega)) hs (.cons rfl (.cons rfl .nil)) rfl ?_
 rintro _ _ _ ⟨v2, rfl⟩ hs
 refine WL_th ?_
 refine W_reg ?_
 refine s_pu (p_move rfl) rfl ?_
 refine s_pu (p_move rfl) rfl ?_
 refine s_pu (p_nilCheck rfl) rfl ?_
 refine s_pu (p_field rfl) rfl ?_
 have hsm := hs.same .head
 refine kq_ldv (o := 4) (hsm _ _ hSb h1) hf3 rfl (by omega) rfl ?_
 have hs := hs.front .t2
 have hs := hs.front .t2
 have hs := hs.front .t2
 refine k_spec [snap w0 S0, pt nb 50 1 (cl [v2]), rowL v2 48 ((l ++ [AT.val (.mk 126 b [k, j])]) ++ k.pre.map AT.val)] (hWj w0 S0 hRj nb v2 ((l ++ [AT.val (.mk 126 b [k, j])]) ++ k.pre.map AT.val) (by simp [pre_length, AT.size]; omega)) hs (.cons rfl (.cons rfl .nil)) rfl ?_
 rintro _ _ _ ⟨v3, rfl⟩ hs
 refine WL_nil ?_
 refine end_none (fn := Tryz.f21) rfl ?_
 have hs := hs.front .t2
 have hs := hs.front .t2
 have hs := hs.front .t2
 have hs := St.cut (G1 := [_, _, _]) hs
 exact hs.spec ⟨v3, by simp [pre_mk, pres]⟩
theorem c_walk128 (b : Nat) (k j : AT) (hWk : WalkOK k) (hWj : WalkOK j) : WalkOK (.mk 128 b [k, j]) := by
 intro w0 S0 hR nb v l hl w S hsat
 have hs := St.start hsat
 obtain ⟨n, T', f, bb, g, hSb, hSbb, h1, hf0, h3, hg1, hB⟩ := hR.node
 change Below1 w0 S0 f 128 n [k, j] at hB
 have hRk : RepA w0 S0 k := hR.all k (by simp [AT.kids])
 have hRj : RepA w0 S0 j := hR.all j (by simp [AT.kids])
 simp only [AT.size, asizes] at hl
 have := one_le_asize k
 have := one_le_asize j
 obtain ⟨hf2, hf3, rfl⟩ : f 2 = k.val ∧ f 3 = j.val ∧ n = 4 := by cases hB; exact ⟨by assumption, by assumption, rfl⟩
 refine calls_W (args := [_, _]) Tryz.func21 rfl Tryz.ntmps21 rfl ?_
 refine W_seq ?_
 refine W_sr ?_
 refine s_pu (p_move rfl) rfl ?_
 refine s_pu (p_move rfl) rfl ?_
 have hs := hs.front .head
 have hs := hs.front .t2
 have hs := hs.front .t2
 refine k_specI (T := 80) (f := 192) (by kernel_rfl) [pt nb 50 1 (cl [v]), rowL v 48 l] (c_Visit nb v l 128 (.pointer (some ⟨b, 0, none⟩)) (by omega)) hs rfl (.cons rfl .nil) rfl ?_
 rintro _ _ _ ⟨v1, rfl, rfl⟩ hs
 refine s_pu (p_assign rfl) rfl ?_
 refine WL_th ?_
 refine W_sr ?_
 refine s_pu (p_move rfl) rfl ?_
 refine s_pu (p_eqNil rfl) rfl ?_
 refine WL_th ?_
 refine W_false rfl ?_
 refine W_skip_th ?_
 refine W_sr ?_
 refine s_pu (p_move rfl) rfl ?_
 refine WL_th ?_
 refine W_block ?_
 refine ta_no rfl rfl rfl ?_
 refine ta_no rfl rfl rfl ?_
 refine W_forget (Ext.cd 0 rfl (Ext.cd 34 rfl (Ext.nil _))) ?_
 refine ta_no rfl rfl rfl ?_
 refine ta_no rfl rfl rfl ?_
 refine ta_no rfl rfl rfl ?_
 refine ta_no rfl rfl rfl ?_
 refine W_forget (Ext.cd 0 rfl (Ext.cd 34 rfl (Ext.nil _))) ?_
 refine ta_no rfl rfl rfl ?_
 refine ta_no rfl rfl rfl ?_
 refine ta_no rfl rfl rfl ?_
 refine ta_no rfl rfl rfl ?_
 refine W_forget (Ext.cd 0 rfl (Ext.cd 34 rfl (Ext.nil _))) ?_
 refine ta_no rfl rfl rfl ?_
 refine ta_no rfl rfl rfl ?_
 refine ta_no rfl rfl rfl ?_
 refine ta_no rfl rfl rfl ?_
 refine W_forget (Ext.cd 0 rfl (Ext.cd 34 rfl (Ext.nil _))) ?_
 refine ta_no rfl rfl rfl ?_
 refine ta_no rfl rfl rfl ?_
 refine ta_no rfl rfl rfl ?_
 refine ta_yes rfl rfl ?_
 refine W_sr ?_
 refine s_pu (p_assign rfl) rfl ?_
 refine WL_th ?_
 refine W_forget (Ext.cd 0 rfl (Ext.cd 27 rfl (Ext.nil _))) ?_
 refine W_sr ?_
 refine s_pu (p_move rfl) rfl ?_
 refine s_pu (p_move rfl) rfl ?_
 refine s_pu (p_nilCheck rfl) rfl ?_
 refine s_pu (p_field rfl) rfl ?_
 have hsm := hs.same .t2
 refine kq_ldv (o := 0) (hsm _ _ hSb h1) hf0 rfl (by omega) rfl ?_
 have hsm := hs.same .t2
 refine k_quiet (c_walkComment _ _ _ _ (hsm _ _ hSbb h3) hg1) hs (.cons rfl (.cons rfl .nil)) rfl ?_
 rintro _ _ _ hs _
 refine WL_th ?_
 refine W_sr ?_
 refine s_pu (p_move rfl) rfl ?_
 refine s_pu (p_move rfl) rfl ?_
 refine s_pu (p_nilCheck rfl) rfl ?_
 refine s_pu (p_field rfl) rfl ?_
 have hsm := hs.same .t2
 refine kq_ldv (o := 2) (hsm _ _ hSb h1) hf2 rfl (by omega) rfl ?_
 have hs := hs.front .t1
 have hs := hs.front .t1
 have hs := hs.front .t2
 refine k_spec [snap w0 S0, pt nb 50 1 (cl [v1]), rowL v1 48 (l ++ [AT.val (.mk 128 b [k, j])])] (hWk w0 S0 hRk nb v1 (l ++ [AT.val (.mk 128 b [k, j])]) (by simp [pre_length, AT.size]; omega)) hs (.cons rfl (.cons rfl .nil)) rfl ?_
 rintro _ _ _ ⟨v2, rfl⟩ hs
 refine WL_th ?_
 refine W_forget (Ext.cd 0 rfl (Ext.cd 27 rfl (Ext.nil _))) ?_
 refine W_reg ?_
 refine s_pu (p_move rfl) rfl ?_
 refine s_pu (p_move rfl) rfl ?_
 refine s_pu (p_nilCheck rfl) rfl ?_
 refine s_pu (p_field rfl) rfl ?_
 have hsm := hs.same .head
 refine kq_ldv (o := 3) (hsm _ _ hSb h1) hf3 rfl (by omega) rfl ?_
 have hs := hs.front .t2
 have hs := hs.front .t2
 have hs := hs.front .t2
 refine k_spec [snap w0 S0, pt nb 50 1 (cl [v2]), rowL v2 48 ((l ++ [AT.val (.mk 128 b [k, j])]) ++ k.pre.map AT.val)] (hWj w0 S0 hRj nb v2 ((l ++ [AT.val (.mk 128 b [k, j])]) ++ k.pre.map AT.val) (by simp [pre_length, AT.size]; omega)) hs (.cons rfl (.cons rfl .nil)) rfl ?_
 rintro _ _ _ ⟨v3, rfl⟩ hs
 refine WL_nil ?_
 refine end_none (fn := Tryz.f21) rfl ?_
 have hs := hs.front .t2
 have hs := hs.front .t2
 have hs := hs.front .t2
 have hs := St.cut (G1 := [_, _, _]) hs
 exact hs.spec ⟨v3, by simp [pre_mk, pres]⟩
end Go.Proofs.YtmalghopogngoaaGreatDoor
set_option linter.unusedVariables false
set_option linter.unusedSimpArgs false
set_option maxRecDepth 4000
namespace Go.Proofs.YtmalghopogngoaaGreatDoor
open Go Go.RowKit MW
theorem alength_size : ∀ (ks : List AT), ks.length ≤ asizes ks
 | [] => by simp [asizes]
 | a :: l => by
  have := alength_size l
  have := one_le_asize a
  simp only [asizes, List.length_cons]
  omega
theorem c_walk116 (b : Nat) (ks : List AT) (hW : ∀ k ∈ ks, WalkOK k) : WalkOK (.mk 116 b ks) := by
 intro w0 S0 hR nb v l hl wI S hsat
 have hs := St.start hsat
 obtain ⟨n, T', f, bb, g, hSb, hSbb, h1, hf0, h3, hg1, hB⟩ := hR.node
 change Below1 w0 S0 f 116 n ks at hB
 simp only [AT.size] at hl
 obtain ⟨u, hf4, hE, rfl, hT⟩ : ∃ u, f 4 = u ∧ ElemsAt w0 S0 u (ks.map AT.ptr) ∧ n = 6 ∧ ∀ k ∈ ks, k.T = 126 := by
  cases hB with
  | leaf h _ => exact absurd h (by decide)
  | map e1 e2 e3 => exact ⟨_, e1, e2, rfl, e3⟩
 obtain ⟨ad, cap, rfl, hall⟩ := hE.out
 have hlk := alength_size ks
 refine calls_W (args := [_, _]) Tryz.func21 rfl Tryz.ntmps21 rfl ?_
 refine W_seq ?_
 refine W_sr ?_
 refine s_pu (p_move rfl) rfl ?_
 refine s_pu (p_move rfl) rfl ?_
 have hs := hs.front .head
 have hs := hs.front .t2
 have hs := hs.front .t2
 refine k_specI (T := 80) (f := 192) (by kernel_rfl) [pt nb 50 1 (cl [v]), rowL v 48 l] (c_Visit nb v l 116 (.pointer (some ⟨b, 0, none⟩)) (by omega)) hs rfl (.cons rfl .nil) rfl ?_
 rintro _ _ _ ⟨v1, rfl, rfl⟩ hs
 refine s_pu (p_assign rfl) rfl ?_
 refine WL_th ?_
 refine W_sr ?_
 refine s_pu (p_move rfl) rfl ?_
 refine s_pu (p_eqNil rfl) rfl ?_
 refine WL_th ?_
 refine W_false rfl ?_
 refine W_skip_th ?_
 refine W_sr ?_
 refine s_pu (p_move rfl) rfl ?_
 refine WL_th ?_
 refine W_block ?_
 refine ta_no rfl rfl rfl ?_
 refine ta_no rfl rfl rfl ?_
 refine W_forget (Ext.cd 0 rfl (Ext.cd 34 rfl (Ext.nil _))) ?_
 refine ta_no rfl rfl rfl ?_
 refine ta_no rfl rfl rfl ?_
 refine ta_no rfl rfl rfl ?_
 refine ta_no rfl rfl rfl ?_
 refine W_forget (Ext.cd 0 rfl (Ext.cd 34 rfl (Ext.nil _))) ?_
 refine ta_no rfl rfl rfl ?_
 refine ta_no rfl rfl rfl ?_
 refine ta_no rfl rfl rfl ?_
 refine ta_no rfl rfl rfl ?_
 refine W_forget (Ext.cd 0 rfl (Ext.cd 34 rfl (Ext.nil _))) ?_
 refine ta_no rfl rfl rfl ?_
 refine ta_no rfl rfl rfl ?_
 refine ta_no rfl rfl rfl ?_
 refine ta_yes rfl rfl ?_
 refine W_sr ?_
 refine s_pu (p_assign rfl) rfl ?_
 refine WL_th ?_
 refine W_forget (Ext.cd 0 rfl (Ext.cd 19 rfl (Ext.nil _))) ?_
 refine W_sr ?_
 refine s_pu (p_move rfl) rfl ?_
 refine s_pu (p_move rfl) rfl ?_
 refine s_pu (p_nilCheck rfl) rfl ?_
 refine s_pu (p_field rfl) rfl ?_
 have hsm := hs.same .t2
 refine kq_ldv (o := 0) (hsm _ _ hSb h1) hf0 rfl (by omega) rfl ?_
 have hsm := hs.same .t2
 refine k_quiet (c_walkComment _ _ _ _ (hsm _ _ hSbb h3) hg1) hs (.cons rfl (.cons rfl .nil)) rfl ?_
 rintro _ _ _ hs _
 refine WL_th ?_
 refine W_sr ?_
 refine s_pu (p_move rfl) rfl ?_
 refine s_pu (p_nilCheck rfl) rfl ?_
 refine s_pu (p_field rfl) rfl ?_
 have hsm := hs.same .t2
 refine kq_ldv (o := 4) (hsm _ _ hSb h1) hf4 rfl (by omega) rfl ?_
 refine s_pu (p_lenL rfl) rfl ?_
 refine s_pu (p_move rfl) rfl ?_
 refine WL_th ?_
 refine W_block ?_
 have hs := hs.front .t1
 have hs := hs.front .t1
 have hs := hs.front .t2
 have hs := St.cut (G1 := [_, _, _]) hs
 refine W_loop (α := Nat × Value) (fun x => (upd (upd (upd (upd emp 198 (.int .i64 x.1)) 197 (.int .i64 (ks.map AT.ptr).length)) 196 (.slice ad (ks.map AT.ptr).length cap)) 0 (.iface 80 (visA nb)))) (fun x w => x.1 ≤ ks.length ∧ St wI S w [snap w0 S0, pt nb 50 1 (cl [x.2]), rowL x.2 48 (l ++ AT.val (.mk 116 b ks) :: (pres (ks.take x.1)).map AT.val)]) (fun x => ks.length - x.1) (0, v1) (Ext.cons rfl (Ext.cons rfl (Ext.cons rfl (Ext.cons rfl (Ext.nil _))))) ⟨Nat.zero_le _, hs⟩ (fun x w hx => ?_)
 obtain ⟨hle, hs⟩ := hx
 refine W_sr ?_
 refine s_pu (p_ltI rfl rfl) rfl ?_
 refine WL_th ?_
 refine W_seq ?_
 refine W_if rfl (fun h11 => ?_) (fun h11 => ?_)
 ·
  have hlt : x.1 < ks.length := by simpa using h11
  obtain ⟨k, hki⟩ : ∃ k, ks[x.1]? = some k := ⟨_, List.getElem?_eq_getElem hlt⟩
  have hkm := List.mem_of_getElem? hki
  have hRk := hR.all k hkm
  have hWk := hW k hkm
  have hkT := hT k hkm
  obtain ⟨kT, kb, kk⟩ := k
  obtain rfl : kT = 126 := hkT
  refine W_skip_th ?_
  refine W_seq ?_
  refine W_block ?_
  refine W_sr ?_
  obtain ⟨rb, rfl, hcell⟩ := hall x.1 (AT.ptr (AT.mk 126 kb kk)) (by simp [hki])
  refine s_pu (p_elem rfl rfl (by omega) (by simp; omega)) rfl ?_
  have hsm := hs.same .head
  refine kc_ldv (hcell _ hsm) rfl rfl rfl ?_
  refine s_pu (p_assign rfl) rfl ?_
  refine WL_th ?_
  refine W_reg ?_
  refine s_pu (p_move rfl) rfl ?_
  refine s_pu (p_move rfl) rfl ?_
  refine s_pu (p_iface rfl) rfl ?_
  have hs := hs.front .t2
  have hs := hs.front .t2
  have hs := hs.front .t2
  refine k_spec [snap w0 S0, pt nb 50 1 (cl [x.2]), rowL x.2 48 (l ++ AT.val (.mk 116 b ks) :: (pres (ks.take x.1)).map AT.val)] (hWk w0 S0 hRk nb x.2 (l ++ AT.val (.mk 116 b ks) :: (pres (ks.take x.1)).map AT.val) (by have := asizes_take hki; simp [pres_length]; omega)) hs (.cons rfl (.cons rfl .nil)) rfl ?_
  rintro _ _ _ ⟨v2, rfl⟩ hs
  refine WL_nil ?_
  show W _ _ _ _ _ _
  refine W_reg ?_
  refine s_pu (p_addI rfl rfl ?_) rfl ?_
  ·
   (first | assumption | omega)
  refine s_pu (p_move rfl) rfl ?_
  refine WL_th ?_
  have hs := hs.front .t2
  have hs := hs.front .t2
  have hs := hs.front .t2
  have hs := St.cut (G1 := [_, _, _]) hs
  refine ⟨(x.1 + 1, v2), (Ext.cons rfl (Ext.cons rfl (Ext.cons rfl (Ext.cons (by show some (Value.int .i64 ((x.1 : Int) + 1)) = _; simp) (Ext.nil _))))), ⟨by omega, ?_⟩, by omega⟩
  have e1 : l ++ AT.val (.mk 116 b ks) :: (pres (ks.take (x.1 + 1))).map AT.val = (l ++ AT.val (.mk 116 b ks) :: (pres (ks.take x.1)).map AT.val) ++ (AT.pre (AT.mk 126 kb kk)).map AT.val := by rw [pres_take_succ hki]; simp
  show St _ _ _ [_, _, rowL v2 48 (l ++ AT.val (.mk 116 b ks) :: (pres (ks.take (x.1 + 1))).map AT.val)]
  rw [e1]; exact hs
 ·
  refine W_exit ?_
  refine end_none (fn := Tryz.f21) rfl ?_
  have hfull : x.1 = ks.length := by have : ¬ (x.1 < ks.length) := (by simpa using h11); omega
  exact hs.spec ⟨x.2, by rw [hfull, List.take_length, pre_mk]; rfl⟩
theorem c_walk175 (b : Nat) (ks : List AT) (hW : ∀ k ∈ ks, WalkOK k) : WalkOK (.mk 175 b ks) := by
 intro w0 S0 hR nb v l hl wI S hsat
 have hs := St.start hsat
 obtain ⟨n, T', f, bb, g, hSb, hSbb, h1, hf0, h3, hg1, hB⟩ := hR.node
 change Below1 w0 S0 f 175 n ks at hB
 simp only [AT.size] at hl
 obtain ⟨u, hf4, hE, rfl⟩ : ∃ u, f 4 = u ∧ ElemsAt w0 S0 u (ks.map AT.val) ∧ n = 8 := by
  cases hB with
  | leaf h _ => exact absurd h (by decide)
  | seq e1 e2 => exact ⟨_, e1, e2, rfl⟩
 obtain ⟨ad, cap, rfl, hall⟩ := hE.out
 have hlk := alength_size ks
 refine calls_W (args := [_, _]) Tryz.func21 rfl Tryz.ntmps21 rfl ?_
 refine W_seq ?_
 refine W_sr ?_
 refine s_pu (p_move rfl) rfl ?_
 refine s_pu (p_move rfl) rfl ?_
 have hs := hs.front .head
 have hs := hs.front .t2
 have hs := hs.front .t2
 refine k_specI (T := 80) (f := 192) (by kernel_rfl) [pt nb 50 1 (cl [v]), rowL v 48 l] (c_Visit nb v l 175 (.pointer (some ⟨b, 0, none⟩)) (by omega)) hs rfl (.cons rfl .nil) rfl ?_
 rintro _ _ _ ⟨v1, rfl, rfl⟩ hs
 refine s_pu (p_assign rfl) rfl ?_
 refine WL_th ?_
 refine W_sr ?_
 refine s_pu (p_move rfl) rfl ?_
 refine s_pu (p_eqNil rfl) rfl ?_
 refine WL_th ?_
 refine W_false rfl ?_
 refine W_skip_th ?_
 refine W_sr ?_
 refine s_pu (p_move rfl) rfl ?_
 refine WL_th ?_
 refine W_block ?_
 refine ta_no rfl rfl rfl ?_
 refine ta_no rfl rfl rfl ?_
 refine W_forget (Ext.cd 0 rfl (Ext.cd 34 rfl (Ext.nil _))) ?_
 refine ta_no rfl rfl rfl ?_
 refine ta_no rfl rfl rfl ?_
 refine ta_no rfl rfl rfl ?_
 refine ta_no rfl rfl rfl ?_
 refine W_forget (Ext.cd 0 rfl (Ext.cd 34 rfl (Ext.nil _))) ?_
 refine ta_no rfl rfl rfl ?_
 refine ta_no rfl rfl rfl ?_
 refine ta_no rfl rfl rfl ?_
 refine ta_no rfl rfl rfl ?_
 refine W_forget (Ext.cd 0 rfl (Ext.cd 34 rfl (Ext.nil _))) ?_
 refine ta_no rfl rfl rfl ?_
 refine ta_no rfl rfl rfl ?_
 refine ta_no rfl rfl rfl ?_
 refine ta_no rfl rfl rfl ?_
 refine W_forget (Ext.cd 0 rfl (Ext.cd 34 rfl (Ext.nil _))) ?_
 refine ta_no rfl rfl rfl ?_
 refine ta_no rfl rfl rfl ?_
 refine ta_yes rfl rfl ?_
 refine W_sr ?_
 refine s_pu (p_assign rfl) rfl ?_
 refine WL_th ?_
 refine W_sr ?_
 refine s_pu (p_move rfl) rfl ?_
 refine s_pu (p_move rfl) rfl ?_
 refine s_pu (p_nilCheck rfl) rfl ?_
 refine s_pu (p_field rfl) rfl ?_
 have hsm := hs.same .t2
 refine kq_ldv (o := 0) (hsm _ _ hSb h1) hf0 rfl (by omega) rfl ?_
 have hsm := hs.same .t2
 refine k_quiet (c_walkComment _ _ _ _ (hsm _ _ hSbb h3) hg1) hs (.cons rfl (.cons rfl .nil)) rfl ?_
 rintro _ _ _ hs _
 refine WL_th ?_
 refine W_forget (Ext.cd 0 rfl (Ext.cd 24 rfl (Ext.nil _))) ?_
 refine W_sr ?_
 refine s_pu (p_move rfl) rfl ?_
 refine s_pu (p_nilCheck rfl) rfl ?_
 refine s_pu (p_field rfl) rfl ?_
 have hsm := hs.same .t2
 refine kq_ldv (o := 4) (hsm _ _ hSb h1) hf4 rfl (by omega) rfl ?_
 refine s_pu (p_lenL rfl) rfl ?_
 refine s_pu (p_move rfl) rfl ?_
 refine WL_th ?_
 refine W_block ?_
 have hs := hs.front .t1
 have hs := hs.front .t1
 have hs := hs.front .t2
 have hs := St.cut (G1 := [_, _, _]) hs
 refine W_loop (α := Nat × Value) (fun x => (upd (upd (upd (upd emp 257 (.int .i64 x.1)) 256 (.int .i64 (ks.map AT.val).length)) 255 (.slice ad (ks.map AT.val).length cap)) 0 (.iface 80 (visA nb)))) (fun x w => x.1 ≤ ks.length ∧ St wI S w [snap w0 S0, pt nb 50 1 (cl [x.2]), rowL x.2 48 (l ++ AT.val (.mk 175 b ks) :: (pres (ks.take x.1)).map AT.val)]) (fun x => ks.length - x.1) (0, v1) (Ext.cons rfl (Ext.cons rfl (Ext.cons rfl (Ext.cons rfl (Ext.nil _))))) ⟨Nat.zero_le _, hs⟩ (fun x w hx => ?_)
 obtain ⟨hle, hs⟩ := hx
 refine W_sr ?_
 refine s_pu (p_ltI rfl rfl) rfl ?_
 refine WL_th ?_
 refine W_seq ?_
 refine W_if rfl (fun h11 => ?_) (fun h11 => ?_)
 ·
  have hlt : x.1 < ks.length := by simpa using h11
  obtain ⟨k, hki⟩ : ∃ k, ks[x.1]? = some k := ⟨_, List.getElem?_eq_getElem hlt⟩
  have hkm := List.mem_of_getElem? hki
  have hRk := hR.all k hkm
  have hWk := hW k hkm
  refine W_skip_th ?_
  refine W_seq ?_
  refine W_block ?_
  refine W_sr ?_
  obtain ⟨rb, rfl, hcell⟩ := hall x.1 (AT.val k) (by simp [hki])
  refine s_pu (p_elem rfl rfl (by omega) (by simp; omega)) rfl ?_
  have hsm := hs.same .head
  refine kc_ldv (hcell _ hsm) rfl rfl rfl ?_
  refine s_pu (p_assign rfl) rfl ?_
  refine WL_th ?_
  refine W_reg ?_
  refine s_pu (p_move rfl) rfl ?_
  refine s_pu (p_move rfl) rfl ?_
  have hs := hs.front .t2
  have hs := hs.front .t2
  have hs := hs.front .t2
  refine k_spec [snap w0 S0, pt nb 50 1 (cl [x.2]), rowL x.2 48 (l ++ AT.val (.mk 175 b ks) :: (pres (ks.take x.1)).map AT.val)] (hWk w0 S0 hRk nb x.2 (l ++ AT.val (.mk 175 b ks) :: (pres (ks.take x.1)).map AT.val) (by have := asizes_take hki; simp [pres_length]; omega)) hs (.cons rfl (.cons rfl .nil)) rfl ?_
  rintro _ _ _ ⟨v2, rfl⟩ hs
  refine WL_nil ?_
  show W _ _ _ _ _ _
  refine W_reg ?_
  refine s_pu (p_addI rfl rfl ?_) rfl ?_
  ·
   (first | assumption | omega)
  refine s_pu (p_move rfl) rfl ?_
  refine WL_th ?_
  have hs := hs.front .t2
  have hs := hs.front .t2
  have hs := hs.front .t2
  have hs := St.cut (G1 := [_, _, _]) hs
  refine ⟨(x.1 + 1, v2), (Ext.cons rfl (Ext.cons rfl (Ext.cons rfl (Ext.cons (by show some (Value.int .i64 ((x.1 : Int) + 1)) = _; simp) (Ext.nil _))))), ⟨by omega, ?_⟩, by omega⟩
  have e1 : l ++ AT.val (.mk 175 b ks) :: (pres (ks.take (x.1 + 1))).map AT.val = (l ++ AT.val (.mk 175 b ks) :: (pres (ks.take x.1)).map AT.val) ++ (AT.pre k).map AT.val := by rw [pres_take_succ hki]; simp
  show St _ _ _ [_, _, rowL v2 48 (l ++ AT.val (.mk 175 b ks) :: (pres (ks.take (x.1 + 1))).map AT.val)]
  rw [e1]; exact hs
 ·
  refine W_exit ?_
  refine end_none (fn := Tryz.f21) rfl ?_
  have hfull : x.1 = ks.length := by have : ¬ (x.1 < ks.length) := (by simpa using h11); omega
  exact hs.spec ⟨x.2, by rw [hfull, List.take_length, pre_mk]; rfl⟩
theorem amem_size {k : AT} : ∀ {ks : List AT}, k ∈ ks → k.size ≤ asizes ks
 | a :: l, h => by
  rcases List.mem_cons.1 h with rfl | h
  ·
   simp [asizes]
  ·
   have := amem_size h
   simp only [asizes]
   omega
theorem c_walk : ∀ (n : Nat) (t : AT), t.size ≤ n → WalkOK t := by
 intro n
 induction n with
 | zero => intro t h; have := one_le_asize t; omega
 | succ n ih =>
  intro t hsz w0 S0 hR
  obtain ⟨T, b, ks⟩ := t
  simp only [AT.size] at hsz
  have hk : ∀ k ∈ ks, WalkOK k := fun k hk => ih k (by have := amem_size hk; omega)
  obtain ⟨m, T', f, bb, g, hSb, hSbb, h1, hf0, h3, hg1, hB⟩ := hR.node
  change Below1 w0 S0 f T m ks at hB
  generalize f = f' at hB
  cases hB with
  | leaf h _ =>
   unfold leafT at h
   simp only [Bool.or_eq_true, beq_iff_eq] at h
   rcases h with (((((rfl | rfl) | rfl) | rfl) | rfl) | rfl) | rfl
   ·
    exact c_walk96 b w0 S0 hR
   ·
    exact c_walk98 b w0 S0 hR
   ·
    exact c_walk100 b w0 S0 hR
   ·
    exact c_walk102 b w0 S0 hR
   ·
    exact c_walk104 b w0 S0 hR
   ·
    exact c_walk106 b w0 S0 hR
   ·
    exact c_walk143 b w0 S0 hR
  | @lit k h _ =>
   obtain ⟨kT, kb, kk⟩ := k
   obtain rfl : kT = 106 := h
   exact c_walk110 b kb kk (hk _ (by simp)) w0 S0 hR
  | map h1 h2 h3 => exact c_walk116 b ks hk w0 S0 hR
  | pair _ _ => exact c_walk126 b _ _ (hk _ (by simp)) (hk _ (by simp)) w0 S0 hR
  | seq _ _ => exact c_walk175 b ks hk w0 S0 hR
  | anchor _ _ => exact c_walk128 b _ _ (hk _ (by simp)) (hk _ (by simp)) w0 S0 hR
  | alias _ => exact c_walk132 b _ (hk _ (by simp)) w0 S0 hR
  | tag _ => exact c_walk139 b _ (hk _ (by simp)) w0 S0 hR
theorem c_visited (t : AT) (w0 : World) (S0 : Foot) (hR : RepA w0 S0 t) (hl : t.size ≤ 1000000) : MW.Spec Tryz.prog 12 [t.val].toArray [snap w0 S0] fun r G => G = [snap w0 S0, rowL r 48 (t.pre.map AT.val)] := by
 intro wI S hsat
 have hs := St.start hsat
 refine calls_W (args := [_]) Tryz.func12 rfl Tryz.ntmps12 rfl ?_
 refine W_sr ?_
 refine s_pu (p_assign rfl) rfl ?_
 refine WL_th ?_
 refine W_sr ?_
 refine k_alloc hs rfl ?_
 intro b3 _ hs
 have hs := hs.rowNil 48 1 (fun i => ([] : List Value)[i]?.getD undef)
 refine WL_th ?_
 refine W_sr ?_
 refine s_pu (p_st (.one rfl rfl rfl .nil)) rfl ?_
 refine s_pu (p_iface rfl) rfl ?_
 refine s_pu (p_move rfl) rfl ?_
 have hs := hs.front .head
 have hs := hs.front .t1
 have hs := hs.front .t2
 refine k_spec [snap w0 S0, pt b3 50 1 (cl [.slice none 0 0]), rowL (.slice none 0 0) 48 []] (c_walk _ t (Nat.le_refl _) w0 S0 hR b3 _ [] (by simpa using hl)) hs (.cons rfl (.cons rfl .nil)) rfl ?_
 rintro _ _ _ ⟨v2, rfl⟩ hs
 refine WL_th ?_
 refine W_sr ?_
 refine k_ld hs rfl .t1 rfl rfl ?_
 refine s_pu (p_assign rfl) rfl ?_
 refine WL_th ?_
 refine W_ret ?_
 refine ret_tmp (fn := Tryz.f12) rfl rfl ?_
 have hs := hs.front .t2
 have hs := hs.front .t1
 have hs := St.cut (G1 := [_, _]) hs
 exact hs.spec rfl
end Go.Proofs.YtmalghopogngoaaGreatDoor
set_option linter.unusedVariables false
set_option linter.unusedSimpArgs false
set_option maxRecDepth 4000
namespace Go.Proofs.YtmalghopogngoaaGreatDoor
open Go Go.RowKit MW
def valP : Option (Nat × Nat) → Value
 | none => .nilIface
 | some (T, b) => .iface T (.pointer (some ⟨b, 0, none⟩))
mutual
def findP (p q : Nat × Nat) : AT → Option (Nat × Nat) | .mk T b ks => if q = (T, b) then some p else findPs (T, b) q ks
def findPs (p q : Nat × Nat) : List AT → Option (Nat × Nat) | [] => none | k :: ks => (findP p q k).or (findPs p q ks)
end
theorem findP_eq {p : Nat × Nat} {tT tb T b : Nat} {ks : List AT} (h : tT = T ∧ tb = b) : findP p (tT, tb) (.mk T b ks) = some p := by
 obtain ⟨rfl, rfl⟩ := h
 unfold findP
 rw [if_pos rfl]
theorem findP_ne {p : Nat × Nat} {tT tb T b : Nat} {ks : List AT} (h : ¬ (tT = T ∧ tb = b)) : findP p (tT, tb) (.mk T b ks) = findPs (T, b) (tT, tb) ks := by
 unfold findP
 rw [if_neg (fun e => h (by injection e with e1 e2; exact ⟨e1, e2⟩))]
theorem findPs_app {p q : Nat × Nat} : ∀ (a b : List AT), findPs p q (a ++ b) = (findPs p q a).or (findPs p q b)
 | [], b => by simp [findPs]
 | k :: a, b => by simp [findPs, findPs_app a b, Option.or_assoc]
theorem findPs_take {p q : Nat × Nat} {ks : List AT} {i : Nat} {k : AT} (h : ks[i]? = some k) : findPs p q (ks.take (i + 1)) = (findPs p q (ks.take i)).or (findP p q k) := by
 have : ks.take (i + 1) = ks.take i ++ [k] := by rw [List.take_add_one, h]; rfl
 rw [this, findPs_app]
 simp [findPs]
theorem findPs_split {p q : Nat × Nat} {ks : List AT} {i : Nat} {k : AT} (h : ks[i]? = some k) (h0 : findPs p q (ks.take i) = none) (h1 : (findP p q k).isSome = true) : findPs p q ks = findP p q k := by
 have h2 : ks = ks.take i ++ k :: ks.drop (i + 1) := by
  have := List.take_append_drop i ks
  rw [List.drop_eq_getElem?_toList_append, h] at this
  simpa using this.symm
 obtain ⟨r, hr⟩ := Option.isSome_iff_exists.1 h1
 rw [congrArg (findPs p q) h2, findPs_app, h0]
 simp [findPs, hr]
section
variable {P : Program} {N : Nat} {Q : Exit → Env → World → Prop} {e : Env} {w : World} {ops : Array Oper} {rest : List Oper} {d : Nat} {ty : TypeId} {pos : String} {af : Array Edge}
theorem k_eqII {T U V V' : TypeId} [IfaceT P T] [PtrT P V'] {x y : Operand} {b b' T1 n1 T2 n2 : Nat} {f1 f2 : Nat → Value} (hx : evo e x = some (.iface V (.pointer (some ⟨b, 0, none⟩)))) (hy : evo e y = some (.iface V' (.pointer (some ⟨b', 0, none⟩))))
  (h1 : w.heap[b]? = some (.cells (mkA n1 f1) T1 (0, 0))) (h2 : w.heap[b']? = some (.cells (mkA n2 f2) T2 (0, 0))) (hN : Nat.blt d N = true) (h : WL P ops N rest Q (upd e d (.bool (decide (V = V' ∧ b = b')))) w) :
  WL P ops N (⟨some d, .binOp .eql T x y U, ty, pos, af, none⟩ :: rest) Q e w := by
 by_cases hV : V = V'
 ·
  subst hV
  by_cases hb : b = b'
  ·
   subst hb
   refine s_pu (p_eqII_same hx hy) hN ?_
   simpa using h
  ·
   refine s_at (p_eqII_other hx hy hb h1 h2) hN ?_
   simpa [hb] using h
 ·
  have hne : Nat.beq V V' = false := by
   cases hb : Nat.beq V V' with
   | true => exact absurd (Nat.eq_of_beq_eq_true hb) hV
   | false => rfl
  refine s_pu (p_eqII_ne hx hy hne) hN ?_
  simpa [hV] using h
theorem k_neP {T U : TypeId} [IfaceT P T] {x : Operand} {o : Option (Nat × Nat)} (hx : evo e x = some (valP o)) (hN : Nat.blt d N = true) (h : WL P ops N rest Q (upd e d (.bool o.isSome)) w) :
  WL P ops N (⟨some d, .binOp .neq T x (.const .nilIface) U, ty, pos, af, none⟩ :: rest) Q e w := by
 cases o with
 | none => exact s_pu (p_neNN hx) hN h
 | some r => exact s_pu (p_neNil hx) hN h
end
def FindOK (t : AT) : Prop := ∀ (w : World) (fb tT tb pT pb : Nat), w.heap[fb]? = some (.cells (mkA 1 (cl [.iface tT (.pointer (some ⟨tb, 0, none⟩))])) 83 (0, 0)) → RepA w (fun _ => True) t → (∃ n f T', w.heap[tb]? = some (.cells (mkA n f) T' (0, 0))) →
 Quiet Tryz.prog 22 [.pointer (some ⟨fb, 0, none⟩), .iface pT (.pointer (some ⟨pb, 0, none⟩)), t.val] w fun v => v = valP (findP (pT, pb) (tT, tb) t)
theorem c_find96 (b : Nat) : FindOK (.mk 96 b []) := by
 intro w fb tT tb pT pb hfb hR ⟨tn, tf, tT', htb⟩
 have hs := St.startNone w
 obtain ⟨n, T', f, bb, g, _, _, h1, hf0, h3, hg1, hB⟩ := hR.node
 refine calls_W (args := [_, _, _]) Tryz.func22 rfl Tryz.ntmps22 rfl ?_
 refine W_sr ?_
 refine s_pu (p_assign rfl) rfl ?_
 refine WL_th ?_
 refine W_seq ?_
 refine W_sr ?_
 refine s_pu (p_move rfl) rfl ?_
 refine s_pu (p_nilCheck rfl) rfl ?_
 refine s_pu (p_field rfl) rfl ?_
 refine kq_ldv (o := 0) (hs.old hfb) rfl rfl (by omega) rfl ?_
 refine s_pu (p_move rfl) rfl ?_
 refine k_eqII (V' := 96) (b' := b) rfl rfl (hs.old htb) (hs.old h1) rfl ?_
 refine WL_th ?_
 refine W_if rfl (fun h43 => ?_) (fun h43 => ?_)
 ·
  refine W_sr ?_
  refine s_pu (p_move rfl) rfl ?_
  refine s_pu (p_assign rfl) rfl ?_
  refine WL_th ?_
  refine W_ret ?_
  refine th_ret ?_
  refine ret_tmp (fn := Tryz.f22) rfl rfl ?_
  exact ⟨by rw [findP_eq (of_decide_eq_true h43)]; rfl, hs.keep0⟩
 ·
  have hne := of_decide_eq_false h43
  refine W_skip_th ?_
  refine W_seq ?_
  refine W_sr ?_
  refine s_pu (p_move rfl) rfl ?_
  refine WL_th ?_
  refine W_block ?_
  refine ta_no rfl rfl rfl ?_
  refine W_forget (Ext.cd 0 rfl (Ext.cd 2 rfl (Ext.cd 45 rfl (Ext.nil _)))) ?_
  refine ta_no rfl rfl rfl ?_
  refine ta_no rfl rfl rfl ?_
  refine ta_no rfl rfl rfl ?_
  refine ta_no rfl rfl rfl ?_
  refine W_forget (Ext.cd 0 rfl (Ext.cd 2 rfl (Ext.cd 45 rfl (Ext.nil _)))) ?_
  refine ta_no rfl rfl rfl ?_
  refine ta_yes rfl rfl ?_
  refine W_sr ?_
  refine s_pu (p_assign rfl) rfl ?_
  refine WL_th ?_
  refine W_sr ?_
  refine s_pu (p_assign rfl) rfl ?_
  refine WL_th ?_
  refine W_ret ?_
  refine bl_ret ?_
  refine th_ret ?_
  refine ret_tmp (fn := Tryz.f22) rfl rfl ?_
  exact ⟨by rw [findP_ne hne]; rfl, hs.keep0⟩
theorem c_find98 (b : Nat) : FindOK (.mk 98 b []) := by
 intro w fb tT tb pT pb hfb hR ⟨tn, tf, tT', htb⟩
 have hs := St.startNone w
 obtain ⟨n, T', f, bb, g, _, _, h1, hf0, h3, hg1, hB⟩ := hR.node
 refine calls_W (args := [_, _, _]) Tryz.func22 rfl Tryz.ntmps22 rfl ?_
 refine W_sr ?_
 refine s_pu (p_assign rfl) rfl ?_
 refine WL_th ?_
 refine W_seq ?_
 refine W_sr ?_
 refine s_pu (p_move rfl) rfl ?_
 refine s_pu (p_nilCheck rfl) rfl ?_
 refine s_pu (p_field rfl) rfl ?_
 refine kq_ldv (o := 0) (hs.old hfb) rfl rfl (by omega) rfl ?_
 refine s_pu (p_move rfl) rfl ?_
 refine k_eqII (V' := 98) (b' := b) rfl rfl (hs.old htb) (hs.old h1) rfl ?_
 refine WL_th ?_
 refine W_if rfl (fun h43 => ?_) (fun h43 => ?_)
 ·
  refine W_sr ?_
  refine s_pu (p_move rfl) rfl ?_
  refine s_pu (p_assign rfl) rfl ?_
  refine WL_th ?_
  refine W_ret ?_
  refine th_ret ?_
  refine ret_tmp (fn := Tryz.f22) rfl rfl ?_
  exact ⟨by rw [findP_eq (of_decide_eq_true h43)]; rfl, hs.keep0⟩
 ·
  have hne := of_decide_eq_false h43
  refine W_skip_th ?_
  refine W_seq ?_
  refine W_sr ?_
  refine s_pu (p_move rfl) rfl ?_
  refine WL_th ?_
  refine W_block ?_
  refine ta_no rfl rfl rfl ?_
  refine W_forget (Ext.cd 0 rfl (Ext.cd 2 rfl (Ext.cd 45 rfl (Ext.nil _)))) ?_
  refine ta_no rfl rfl rfl ?_
  refine ta_yes rfl rfl ?_
  refine W_sr ?_
  refine s_pu (p_assign rfl) rfl ?_
  refine WL_th ?_
  refine W_sr ?_
  refine s_pu (p_assign rfl) rfl ?_
  refine WL_th ?_
  refine W_ret ?_
  refine bl_ret ?_
  refine th_ret ?_
  refine ret_tmp (fn := Tryz.f22) rfl rfl ?_
  exact ⟨by rw [findP_ne hne]; rfl, hs.keep0⟩
theorem c_find100 (b : Nat) : FindOK (.mk 100 b []) := by
 intro w fb tT tb pT pb hfb hR ⟨tn, tf, tT', htb⟩
 have hs := St.startNone w
 obtain ⟨n, T', f, bb, g, _, _, h1, hf0, h3, hg1, hB⟩ := hR.node
 refine calls_W (args := [_, _, _]) Tryz.func22 rfl Tryz.ntmps22 rfl ?_
 refine W_sr ?_
 refine s_pu (p_assign rfl) rfl ?_
 refine WL_th ?_
 refine W_seq ?_
 refine W_sr ?_
 refine s_pu (p_move rfl) rfl ?_
 refine s_pu (p_nilCheck rfl) rfl ?_
 refine s_pu (p_field rfl) rfl ?_
 refine kq_ldv (o := 0) (hs.old hfb) rfl rfl (by omega) rfl ?_
 refine s_pu (p_move rfl) rfl ?_
 refine k_eqII (V' := 100) (b' := b) rfl rfl (hs.old htb) (hs.old h1) rfl ?_
 refine WL_th ?_
 refine W_if rfl (fun h43 => ?_) (fun h43 => ?_)
 ·
  refine W_sr ?_
  refine s_pu (p_move rfl) rfl ?_
  refine s_pu (p_assign rfl) rfl ?_
  refine WL_th ?_
  refine W_ret ?_
  refine th_ret ?_
  refine ret_tmp (fn := Tryz.f22) rfl rfl ?_
  exact ⟨by rw [findP_eq (of_decide_eq_true h43)]; rfl, hs.keep0⟩
 ·
  have hne := of_decide_eq_false h43
  refine W_skip_th ?_
  refine W_seq ?_
  refine W_sr ?_
  refine s_pu (p_move rfl) rfl ?_
  refine WL_th ?_
  refine W_block ?_
  refine ta_no rfl rfl rfl ?_
  refine W_forget (Ext.cd 0 rfl (Ext.cd 2 rfl (Ext.cd 45 rfl (Ext.nil _)))) ?_
  refine ta_no rfl rfl rfl ?_
  refine ta_no rfl rfl rfl ?_
  refine ta_yes rfl rfl ?_
  refine W_sr ?_
  refine s_pu (p_assign rfl) rfl ?_
  refine WL_th ?_
  refine W_forget (Ext.nil _) ?_
  refine W_sr ?_
  refine s_pu (p_assign rfl) rfl ?_
  refine WL_th ?_
  refine W_ret ?_
  refine bl_ret ?_
  refine th_ret ?_
  refine ret_tmp (fn := Tryz.f22) rfl rfl ?_
  exact ⟨by rw [findP_ne hne]; rfl, hs.keep0⟩
theorem c_find102 (b : Nat) : FindOK (.mk 102 b []) := by
 intro w fb tT tb pT pb hfb hR ⟨tn, tf, tT', htb⟩
 have hs := St.startNone w
 obtain ⟨n, T', f, bb, g, _, _, h1, hf0, h3, hg1, hB⟩ := hR.node
 refine calls_W (args := [_, _, _]) Tryz.func22 rfl Tryz.ntmps22 rfl ?_
 refine W_sr ?_
 refine s_pu (p_assign rfl) rfl ?_
 refine WL_th ?_
 refine W_seq ?_
 refine W_sr ?_
 refine s_pu (p_move rfl) rfl ?_
 refine s_pu (p_nilCheck rfl) rfl ?_
 refine s_pu (p_field rfl) rfl ?_
 refine kq_ldv (o := 0) (hs.old hfb) rfl rfl (by omega) rfl ?_
 refine s_pu (p_move rfl) rfl ?_
 refine k_eqII (V' := 102) (b' := b) rfl rfl (hs.old htb) (hs.old h1) rfl ?_
 refine WL_th ?_
 refine W_if rfl (fun h43 => ?_) (fun h43 => ?_)
 ·
  refine W_sr ?_
  refine s_pu (p_move rfl) rfl ?_
  refine s_pu (p_assign rfl) rfl ?_
  refine WL_th ?_
  refine W_ret ?_
  refine th_ret ?_
  refine ret_tmp (fn := Tryz.f22) rfl rfl ?_
  exact ⟨by rw [findP_eq (of_decide_eq_true h43)]; rfl, hs.keep0⟩
 ·
  have hne := of_decide_eq_false h43
  refine W_skip_th ?_
  refine W_seq ?_
  refine W_sr ?_
  refine s_pu (p_move rfl) rfl ?_
  refine WL_th ?_
  refine W_block ?_
  refine ta_no rfl rfl rfl ?_
  refine W_forget (Ext.cd 0 rfl (Ext.cd 2 rfl (Ext.cd 45 rfl (Ext.nil _)))) ?_
  refine ta_no rfl rfl rfl ?_
  refine ta_no rfl rfl rfl ?_
  refine ta_no rfl rfl rfl ?_
  refine ta_no rfl rfl rfl ?_
  refine W_forget (Ext.cd 0 rfl (Ext.cd 2 rfl (Ext.cd 45 rfl (Ext.nil _)))) ?_
  refine ta_no rfl rfl rfl ?_
  refine ta_no rfl rfl rfl ?_
  refine ta_yes rfl rfl ?_
  refine W_sr ?_
  refine s_pu (p_assign rfl) rfl ?_
  refine WL_th ?_
  refine W_forget (Ext.nil _) ?_
  refine W_sr ?_
  refine s_pu (p_assign rfl) rfl ?_
  refine WL_th ?_
  refine W_ret ?_
  refine bl_ret ?_
  refine th_ret ?_
  refine ret_tmp (fn := Tryz.f22) rfl rfl ?_
  exact ⟨by rw [findP_ne hne]; rfl, hs.keep0⟩
theorem c_find104 (b : Nat) : FindOK (.mk 104 b []) := by
 intro w fb tT tb pT pb hfb hR ⟨tn, tf, tT', htb⟩
 have hs := St.startNone w
 obtain ⟨n, T', f, bb, g, _, _, h1, hf0, h3, hg1, hB⟩ := hR.node
 refine calls_W (args := [_, _, _]) Tryz.func22 rfl Tryz.ntmps22 rfl ?_
 refine W_sr ?_
 refine s_pu (p_assign rfl) rfl ?_
 refine WL_th ?_
 refine W_seq ?_
 refine W_sr ?_
 refine s_pu (p_move rfl) rfl ?_
 refine s_pu (p_nilCheck rfl) rfl ?_
 refine s_pu (p_field rfl) rfl ?_
 refine kq_ldv (o := 0) (hs.old hfb) rfl rfl (by omega) rfl ?_
 refine s_pu (p_move rfl) rfl ?_
 refine k_eqII (V' := 104) (b' := b) rfl rfl (hs.old htb) (hs.old h1) rfl ?_
 refine WL_th ?_
 refine W_if rfl (fun h43 => ?_) (fun h43 => ?_)
 ·
  refine W_sr ?_
  refine s_pu (p_move rfl) rfl ?_
  refine s_pu (p_assign rfl) rfl ?_
  refine WL_th ?_
  refine W_ret ?_
  refine th_ret ?_
  refine ret_tmp (fn := Tryz.f22) rfl rfl ?_
  exact ⟨by rw [findP_eq (of_decide_eq_true h43)]; rfl, hs.keep0⟩
 ·
  have hne := of_decide_eq_false h43
  refine W_skip_th ?_
  refine W_seq ?_
  refine W_sr ?_
  refine s_pu (p_move rfl) rfl ?_
  refine WL_th ?_
  refine W_block ?_
  refine ta_no rfl rfl rfl ?_
  refine W_forget (Ext.cd 0 rfl (Ext.cd 2 rfl (Ext.cd 45 rfl (Ext.nil _)))) ?_
  refine ta_no rfl rfl rfl ?_
  refine ta_no rfl rfl rfl ?_
  refine ta_no rfl rfl rfl ?_
  refine ta_no rfl rfl rfl ?_
  refine W_forget (Ext.cd 0 rfl (Ext.cd 2 rfl (Ext.cd 45 rfl (Ext.nil _)))) ?_
  refine ta_no rfl rfl rfl ?_
  refine ta_no rfl rfl rfl ?_
  refine ta_no rfl rfl rfl ?_
  refine ta_yes rfl rfl ?_
  refine W_sr ?_
  refine s_pu (p_assign rfl) rfl ?_
  refine WL_th ?_
  refine W_forget (Ext.nil _) ?_
  refine W_sr ?_
  refine s_pu (p_assign rfl) rfl ?_
  refine WL_th ?_
  refine W_ret ?_
  refine bl_ret ?_
  refine th_ret ?_
  refine ret_tmp (fn := Tryz.f22) rfl rfl ?_
  exact ⟨by rw [findP_ne hne]; rfl, hs.keep0⟩
theorem c_find106 (b : Nat) : FindOK (.mk 106 b []) := by
 intro w fb tT tb pT pb hfb hR ⟨tn, tf, tT', htb⟩
 have hs := St.startNone w
 obtain ⟨n, T', f, bb, g, _, _, h1, hf0, h3, hg1, hB⟩ := hR.node
 refine calls_W (args := [_, _, _]) Tryz.func22 rfl Tryz.ntmps22 rfl ?_
 refine W_sr ?_
 refine s_pu (p_assign rfl) rfl ?_
 refine WL_th ?_
 refine W_seq ?_
 refine W_sr ?_
 refine s_pu (p_move rfl) rfl ?_
 refine s_pu (p_nilCheck rfl) rfl ?_
 refine s_pu (p_field rfl) rfl ?_
 refine kq_ldv (o := 0) (hs.old hfb) rfl rfl (by omega) rfl ?_
 refine s_pu (p_move rfl) rfl ?_
 refine k_eqII (V' := 106) (b' := b) rfl rfl (hs.old htb) (hs.old h1) rfl ?_
 refine WL_th ?_
 refine W_if rfl (fun h43 => ?_) (fun h43 => ?_)
 ·
  refine W_sr ?_
  refine s_pu (p_move rfl) rfl ?_
  refine s_pu (p_assign rfl) rfl ?_
  refine WL_th ?_
  refine W_ret ?_
  refine th_ret ?_
  refine ret_tmp (fn := Tryz.f22) rfl rfl ?_
  exact ⟨by rw [findP_eq (of_decide_eq_true h43)]; rfl, hs.keep0⟩
 ·
  have hne := of_decide_eq_false h43
  refine W_skip_th ?_
  refine W_seq ?_
  refine W_sr ?_
  refine s_pu (p_move rfl) rfl ?_
  refine WL_th ?_
  refine W_block ?_
  refine ta_no rfl rfl rfl ?_
  refine W_forget (Ext.cd 0 rfl (Ext.cd 2 rfl (Ext.cd 45 rfl (Ext.nil _)))) ?_
  refine ta_no rfl rfl rfl ?_
  refine ta_no rfl rfl rfl ?_
  refine ta_no rfl rfl rfl ?_
  refine ta_yes rfl rfl ?_
  refine W_sr ?_
  refine s_pu (p_assign rfl) rfl ?_
  refine WL_th ?_
  refine W_forget (Ext.nil _) ?_
  refine W_sr ?_
  refine s_pu (p_assign rfl) rfl ?_
  refine WL_th ?_
  refine W_ret ?_
  refine bl_ret ?_
  refine th_ret ?_
  refine ret_tmp (fn := Tryz.f22) rfl rfl ?_
  exact ⟨by rw [findP_ne hne]; rfl, hs.keep0⟩
theorem c_find143 (b : Nat) : FindOK (.mk 143 b []) := by
 intro w fb tT tb pT pb hfb hR ⟨tn, tf, tT', htb⟩
 have hs := St.startNone w
 obtain ⟨n, T', f, bb, g, _, _, h1, hf0, h3, hg1, hB⟩ := hR.node
 refine calls_W (args := [_, _, _]) Tryz.func22 rfl Tryz.ntmps22 rfl ?_
 refine W_sr ?_
 refine s_pu (p_assign rfl) rfl ?_
 refine WL_th ?_
 refine W_seq ?_
 refine W_sr ?_
 refine s_pu (p_move rfl) rfl ?_
 refine s_pu (p_nilCheck rfl) rfl ?_
 refine s_pu (p_field rfl) rfl ?_
 refine kq_ldv (o := 0) (hs.old hfb) rfl rfl (by omega) rfl ?_
 refine s_pu (p_move rfl) rfl ?_
 refine k_eqII (V' := 143) (b' := b) rfl rfl (hs.old htb) (hs.old h1) rfl ?_
 refine WL_th ?_
 refine W_if rfl (fun h43 => ?_) (fun h43 => ?_)
 ·
  refine W_sr ?_
  refine s_pu (p_move rfl) rfl ?_
  refine s_pu (p_assign rfl) rfl ?_
  refine WL_th ?_
  refine W_ret ?_
  refine th_ret ?_
  refine ret_tmp (fn := Tryz.f22) rfl rfl ?_
  exact ⟨by rw [findP_eq (of_decide_eq_true h43)]; rfl, hs.keep0⟩
 ·
  have hne := of_decide_eq_false h43
  refine W_skip_th ?_
  refine W_seq ?_
  refine W_sr ?_
  refine s_pu (p_move rfl) rfl ?_
  refine WL_th ?_
  refine W_block ?_
  refine ta_no rfl rfl rfl ?_
  refine W_forget (Ext.cd 0 rfl (Ext.cd 2 rfl (Ext.cd 45 rfl (Ext.nil _)))) ?_
  refine ta_yes rfl rfl ?_
  refine W_sr ?_
  refine s_pu (p_assign rfl) rfl ?_
  refine WL_th ?_
  refine W_sr ?_
  refine s_pu (p_assign rfl) rfl ?_
  refine WL_th ?_
  refine W_ret ?_
  refine bl_ret ?_
  refine th_ret ?_
  refine ret_tmp (fn := Tryz.f22) rfl rfl ?_
  exact ⟨by rw [findP_ne hne]; rfl, hs.keep0⟩
theorem c_find110 (b : Nat) (kb : Nat) (kk : List AT) (hWk : FindOK (.mk 106 kb kk)) : FindOK (.mk 110 b [.mk 106 kb kk]) := by
 intro w fb tT tb pT pb hfb hR ⟨tn, tf, tT', htb⟩
 have hs := St.startNone w
 obtain ⟨n, T', f, bb, g, _, _, h1, hf0, h3, hg1, hB⟩ := hR.node
 change Below1 w _ f 110 n [.mk 106 kb kk] at hB
 have hRk : RepA w (fun _ => True) (.mk 106 kb kk) := hR.all _ (by simp [AT.kids])
 obtain ⟨hf2, rfl⟩ : f 2 = .pointer (some ⟨kb, 0, none⟩) ∧ n = 3 := by cases hB with | lit a b => exact ⟨b, rfl⟩
 refine calls_W (args := [_, _, _]) Tryz.func22 rfl Tryz.ntmps22 rfl ?_
 refine W_sr ?_
 refine s_pu (p_assign rfl) rfl ?_
 refine WL_th ?_
 refine W_seq ?_
 refine W_sr ?_
 refine s_pu (p_move rfl) rfl ?_
 refine s_pu (p_nilCheck rfl) rfl ?_
 refine s_pu (p_field rfl) rfl ?_
 refine kq_ldv (o := 0) (hs.old hfb) rfl rfl (by omega) rfl ?_
 refine s_pu (p_move rfl) rfl ?_
 refine k_eqII (V' := 110) (b' := b) rfl rfl (hs.old htb) (hs.old h1) rfl ?_
 refine WL_th ?_
 refine W_if rfl (fun h43 => ?_) (fun h43 => ?_)
 ·
  refine W_sr ?_
  refine s_pu (p_move rfl) rfl ?_
  refine s_pu (p_assign rfl) rfl ?_
  refine WL_th ?_
  refine W_ret ?_
  refine th_ret ?_
  refine ret_tmp (fn := Tryz.f22) rfl rfl ?_
  exact ⟨by rw [findP_eq (of_decide_eq_true h43)]; rfl, hs.keep0⟩
 ·
  have hne := of_decide_eq_false h43
  refine W_skip_th ?_
  refine W_seq ?_
  refine W_sr ?_
  refine s_pu (p_move rfl) rfl ?_
  refine WL_th ?_
  refine W_block ?_
  refine ta_no rfl rfl rfl ?_
  refine W_forget (Ext.cd 0 rfl (Ext.cd 2 rfl (Ext.cd 45 rfl (Ext.nil _)))) ?_
  refine ta_no rfl rfl rfl ?_
  refine ta_no rfl rfl rfl ?_
  refine ta_no rfl rfl rfl ?_
  refine ta_no rfl rfl rfl ?_
  refine W_forget (Ext.cd 0 rfl (Ext.cd 2 rfl (Ext.cd 45 rfl (Ext.nil _)))) ?_
  refine ta_no rfl rfl rfl ?_
  refine ta_no rfl rfl rfl ?_
  refine ta_no rfl rfl rfl ?_
  refine ta_no rfl rfl rfl ?_
  refine W_forget (Ext.cd 0 rfl (Ext.cd 2 rfl (Ext.cd 45 rfl (Ext.nil _)))) ?_
  refine ta_yes rfl rfl ?_
  refine W_sr ?_
  refine s_pu (p_assign rfl) rfl ?_
  refine WL_th ?_
  refine W_sr ?_
  refine s_pu (p_move rfl) rfl ?_
  refine s_pu (p_move rfl) rfl ?_
  refine s_pu (p_move rfl) rfl ?_
  refine s_pu (p_nilCheck rfl) rfl ?_
  refine s_pu (p_field rfl) rfl ?_
  refine kq_ldv (o := 2) (hs.old h1) hf2 rfl (by omega) rfl ?_
  refine s_pu (p_iface rfl) rfl ?_
  refine k_quiet (hWk _ fb tT tb 110 b (hs.old hfb) (hRk.keep (hs.keep.sames.on _) (fun _ => id)) ⟨_, _, _, hs.old htb⟩) hs (.cons rfl (.cons rfl (.cons rfl .nil))) rfl ?_
  rintro _ _ rfl hs _
  refine s_pu (p_assign rfl) rfl ?_
  refine WL_th ?_
  refine W_forget (Ext.cd 6 rfl (Ext.nil _)) ?_
  refine W_ret ?_
  refine bl_ret ?_
  refine th_ret ?_
  refine ret_tmp (fn := Tryz.f22) rfl rfl ?_
  exact ⟨by rw [findP_ne hne]; simp [findPs], hs.keep0⟩
theorem c_find139 (b : Nat) (k : AT) (hWk : FindOK k) : FindOK (.mk 139 b [k]) := by
 intro w fb tT tb pT pb hfb hR ⟨tn, tf, tT', htb⟩
 have hs := St.startNone w
 obtain ⟨n, T', f, bb, g, _, _, h1, hf0, h3, hg1, hB⟩ := hR.node
 change Below1 w _ f 139 n [k] at hB
 have hRk : RepA w (fun _ => True) k := hR.all _ (by simp [AT.kids])
 obtain ⟨hf2, rfl⟩ : f 3 = k.val ∧ n = 4 := by cases hB; exact ⟨by assumption, rfl⟩
 refine calls_W (args := [_, _, _]) Tryz.func22 rfl Tryz.ntmps22 rfl ?_
 refine W_sr ?_
 refine s_pu (p_assign rfl) rfl ?_
 refine WL_th ?_
 refine W_seq ?_
 refine W_sr ?_
 refine s_pu (p_move rfl) rfl ?_
 refine s_pu (p_nilCheck rfl) rfl ?_
 refine s_pu (p_field rfl) rfl ?_
 refine kq_ldv (o := 0) (hs.old hfb) rfl rfl (by omega) rfl ?_
 refine s_pu (p_move rfl) rfl ?_
 refine k_eqII (V' := 139) (b' := b) rfl rfl (hs.old htb) (hs.old h1) rfl ?_
 refine WL_th ?_
 refine W_if rfl (fun h43 => ?_) (fun h43 => ?_)
 ·
  refine W_sr ?_
  refine s_pu (p_move rfl) rfl ?_
  refine s_pu (p_assign rfl) rfl ?_
  refine WL_th ?_
  refine W_ret ?_
  refine th_ret ?_
  refine ret_tmp (fn := Tryz.f22) rfl rfl ?_
  exact ⟨by rw [findP_eq (of_decide_eq_true h43)]; rfl, hs.keep0⟩
 ·
  have hne := of_decide_eq_false h43
  refine W_skip_th ?_
  refine W_seq ?_
  refine W_sr ?_
  refine s_pu (p_move rfl) rfl ?_
  refine WL_th ?_
  refine W_block ?_
  refine ta_no rfl rfl rfl ?_
  refine W_forget (Ext.cd 0 rfl (Ext.cd 2 rfl (Ext.cd 45 rfl (Ext.nil _)))) ?_
  refine ta_no rfl rfl rfl ?_
  refine ta_no rfl rfl rfl ?_
  refine ta_no rfl rfl rfl ?_
  refine ta_no rfl rfl rfl ?_
  refine W_forget (Ext.cd 0 rfl (Ext.cd 2 rfl (Ext.cd 45 rfl (Ext.nil _)))) ?_
  refine ta_no rfl rfl rfl ?_
  refine ta_no rfl rfl rfl ?_
  refine ta_no rfl rfl rfl ?_
  refine ta_no rfl rfl rfl ?_
  refine W_forget (Ext.cd 0 rfl (Ext.cd 2 rfl (Ext.cd 45 rfl (Ext.nil _)))) ?_
  refine ta_no rfl rfl rfl ?_
  refine ta_no rfl rfl rfl ?_
  refine ta_yes rfl rfl ?_
  refine W_sr ?_
  refine s_pu (p_assign rfl) rfl ?_
  refine WL_th ?_
  refine W_sr ?_
  refine s_pu (p_move rfl) rfl ?_
  refine s_pu (p_move rfl) rfl ?_
  refine s_pu (p_move rfl) rfl ?_
  refine s_pu (p_nilCheck rfl) rfl ?_
  refine s_pu (p_field rfl) rfl ?_
  refine kq_ldv (o := 3) (hs.old h1) hf2 rfl (by omega) rfl ?_
  refine k_quiet (hWk _ fb tT tb 139 b (hs.old hfb) (hRk.keep (hs.keep.sames.on _) (fun _ => id)) ⟨_, _, _, hs.old htb⟩) hs (.cons rfl (.cons rfl (.cons rfl .nil))) rfl ?_
  rintro _ _ rfl hs _
  refine s_pu (p_assign rfl) rfl ?_
  refine WL_th ?_
  refine W_forget (Ext.cd 6 rfl (Ext.nil _)) ?_
  refine W_ret ?_
  refine bl_ret ?_
  refine th_ret ?_
  refine ret_tmp (fn := Tryz.f22) rfl rfl ?_
  exact ⟨by rw [findP_ne hne]; simp [findPs], hs.keep0⟩
theorem c_find132 (b : Nat) (k : AT) (hWk : FindOK k) : FindOK (.mk 132 b [k]) := by
 intro w fb tT tb pT pb hfb hR ⟨tn, tf, tT', htb⟩
 have hs := St.startNone w
 obtain ⟨n, T', f, bb, g, _, _, h1, hf0, h3, hg1, hB⟩ := hR.node
 change Below1 w _ f 132 n [k] at hB
 have hRk : RepA w (fun _ => True) k := hR.all _ (by simp [AT.kids])
 obtain ⟨hf2, rfl⟩ : f 2 = k.val ∧ n = 3 := by cases hB; exact ⟨by assumption, rfl⟩
 refine calls_W (args := [_, _, _]) Tryz.func22 rfl Tryz.ntmps22 rfl ?_
 refine W_sr ?_
 refine s_pu (p_assign rfl) rfl ?_
 refine WL_th ?_
 refine W_seq ?_
 refine W_sr ?_
 refine s_pu (p_move rfl) rfl ?_
 refine s_pu (p_nilCheck rfl) rfl ?_
 refine s_pu (p_field rfl) rfl ?_
 refine kq_ldv (o := 0) (hs.old hfb) rfl rfl (by omega) rfl ?_
 refine s_pu (p_move rfl) rfl ?_
 refine k_eqII (V' := 132) (b' := b) rfl rfl (hs.old htb) (hs.old h1) rfl ?_
 refine WL_th ?_
 refine W_if rfl (fun h43 => ?_) (fun h43 => ?_)
 ·
  refine W_sr ?_
  refine s_pu (p_move rfl) rfl ?_
  refine s_pu (p_assign rfl) rfl ?_
  refine WL_th ?_
  refine W_ret ?_
  refine th_ret ?_
  refine ret_tmp (fn := Tryz.f22) rfl rfl ?_
  exact ⟨by rw [findP_eq (of_decide_eq_true h43)]; rfl, hs.keep0⟩
 ·
  have hne := of_decide_eq_false h43
  refine W_skip_th ?_
  refine W_seq ?_
  refine W_sr ?_
  refine s_pu (p_move rfl) rfl ?_
  refine WL_th ?_
  refine W_block ?_
  refine ta_no rfl rfl rfl ?_
  refine W_forget (Ext.cd 0 rfl (Ext.cd 2 rfl (Ext.cd 45 rfl (Ext.nil _)))) ?_
  refine ta_no rfl rfl rfl ?_
  refine ta_no rfl rfl rfl ?_
  refine ta_no rfl rfl rfl ?_
  refine ta_no rfl rfl rfl ?_
  refine W_forget (Ext.cd 0 rfl (Ext.cd 2 rfl (Ext.cd 45 rfl (Ext.nil _)))) ?_
  refine ta_no rfl rfl rfl ?_
  refine ta_no rfl rfl rfl ?_
  refine ta_no rfl rfl rfl ?_
  refine ta_no rfl rfl rfl ?_
  refine W_forget (Ext.cd 0 rfl (Ext.cd 2 rfl (Ext.cd 45 rfl (Ext.nil _)))) ?_
  refine ta_no rfl rfl rfl ?_
  refine ta_no rfl rfl rfl ?_
  refine ta_no rfl rfl rfl ?_
  refine ta_no rfl rfl rfl ?_
  refine W_forget (Ext.cd 0 rfl (Ext.cd 2 rfl (Ext.cd 45 rfl (Ext.nil _)))) ?_
  refine ta_no rfl rfl rfl ?_
  refine ta_no rfl rfl rfl ?_
  refine ta_no rfl rfl rfl ?_
  refine ta_no rfl rfl rfl ?_
  refine W_forget (Ext.cd 0 rfl (Ext.cd 2 rfl (Ext.cd 45 rfl (Ext.nil _)))) ?_
  refine ta_no rfl rfl rfl ?_
  refine ta_yes rfl rfl ?_
  refine W_sr ?_
  refine s_pu (p_assign rfl) rfl ?_
  refine WL_th ?_
  refine W_sr ?_
  refine s_pu (p_move rfl) rfl ?_
  refine s_pu (p_move rfl) rfl ?_
  refine s_pu (p_move rfl) rfl ?_
  refine s_pu (p_nilCheck rfl) rfl ?_
  refine s_pu (p_field rfl) rfl ?_
  refine kq_ldv (o := 2) (hs.old h1) hf2 rfl (by omega) rfl ?_
  refine k_quiet (hWk _ fb tT tb 132 b (hs.old hfb) (hRk.keep (hs.keep.sames.on _) (fun _ => id)) ⟨_, _, _, hs.old htb⟩) hs (.cons rfl (.cons rfl (.cons rfl .nil))) rfl ?_
  rintro _ _ rfl hs _
  refine s_pu (p_assign rfl) rfl ?_
  refine WL_th ?_
  refine W_forget (Ext.cd 6 rfl (Ext.nil _)) ?_
  refine W_ret ?_
  refine bl_ret ?_
  refine th_ret ?_
  refine ret_tmp (fn := Tryz.f22) rfl rfl ?_
  exact ⟨by rw [findP_ne hne]; simp [findPs], hs.keep0⟩
theorem c_find126 (b : Nat) (k j : AT) (hWk : FindOK k) (hWj : FindOK j) : FindOK (.mk 126 b [k, j]) := by
 intro w fb tT tb pT pb hfb hR ⟨tn, tf, tT', htb⟩
 have hs := St.startNone w
 obtain ⟨n, T', f, bb, g, _, _, h1, hf0, h3, hg1, hB⟩ := hR.node
 change Below1 w _ f 126 n [k, j] at hB
 have hRk : RepA w (fun _ => True) k := hR.all _ (by simp [AT.kids])
 have hRj : RepA w (fun _ => True) j := hR.all _ (by simp [AT.kids])
 obtain ⟨hf2, hf3, rfl⟩ : f 3 = k.val ∧ f 4 = j.val ∧ n = 7 := by cases hB; exact ⟨by assumption, by assumption, rfl⟩
 refine calls_W (args := [_, _, _]) Tryz.func22 rfl Tryz.ntmps22 rfl ?_
 refine W_sr ?_
 refine s_pu (p_assign rfl) rfl ?_
 refine WL_th ?_
 refine W_seq ?_
 refine W_sr ?_
 refine s_pu (p_move rfl) rfl ?_
 refine s_pu (p_nilCheck rfl) rfl ?_
 refine s_pu (p_field rfl) rfl ?_
 refine kq_ldv (o := 0) (hs.old hfb) rfl rfl (by omega) rfl ?_
 refine s_pu (p_move rfl) rfl ?_
 refine k_eqII (V' := 126) (b' := b) rfl rfl (hs.old htb) (hs.old h1) rfl ?_
 refine WL_th ?_
 refine W_if rfl (fun h43 => ?_) (fun h43 => ?_)
 ·
  refine W_sr ?_
  refine s_pu (p_move rfl) rfl ?_
  refine s_pu (p_assign rfl) rfl ?_
  refine WL_th ?_
  refine W_ret ?_
  refine th_ret ?_
  refine ret_tmp (fn := Tryz.f22) rfl rfl ?_
  exact ⟨by rw [findP_eq (of_decide_eq_true h43)]; rfl, hs.keep0⟩
 ·
  have hne := of_decide_eq_false h43
  refine W_skip_th ?_
  refine W_seq ?_
  refine W_sr ?_
  refine s_pu (p_move rfl) rfl ?_
  refine WL_th ?_
  refine W_block ?_
  refine ta_no rfl rfl rfl ?_
  refine W_forget (Ext.cd 0 rfl (Ext.cd 2 rfl (Ext.cd 45 rfl (Ext.nil _)))) ?_
  refine ta_no rfl rfl rfl ?_
  refine ta_no rfl rfl rfl ?_
  refine ta_no rfl rfl rfl ?_
  refine ta_no rfl rfl rfl ?_
  refine W_forget (Ext.cd 0 rfl (Ext.cd 2 rfl (Ext.cd 45 rfl (Ext.nil _)))) ?_
  refine ta_no rfl rfl rfl ?_
  refine ta_no rfl rfl rfl ?_
  refine ta_no rfl rfl rfl ?_
  refine ta_no rfl rfl rfl ?_
  refine W_forget (Ext.cd 0 rfl (Ext.cd 2 rfl (Ext.cd 45 rfl (Ext.nil _)))) ?_
  refine ta_no rfl rfl rfl ?_
  refine ta_no rfl rfl rfl ?_
  refine ta_no rfl rfl rfl ?_
  refine ta_no rfl rfl rfl ?_
  refine W_forget (Ext.cd 0 rfl (Ext.cd 2 rfl (Ext.cd 45 rfl (Ext.nil _)))) ?_
  refine ta_no rfl rfl rfl ?_
  refine ta_no rfl rfl rfl ?_
  refine ta_yes rfl rfl ?_
  refine W_sr ?_
  refine s_pu (p_assign rfl) rfl ?_
  refine WL_th ?_
  refine W_seq ?_
  refine W_sr ?_
  refine s_pu (p_move rfl) rfl ?_
  refine s_pu (p_move rfl) rfl ?_
  refine s_pu (p_move rfl) rfl ?_
  refine s_pu (p_nilCheck rfl) rfl ?_
  refine s_pu (p_field rfl) rfl ?_
  refine kq_ldv (o := 3) (hs.old h1) hf2 rfl (by omega) rfl ?_
  refine k_quiet (hWk _ fb tT tb 126 b (hs.old hfb) (hRk.keep (hs.keep.sames.on _) (fun _ => id)) ⟨_, _, _, hs.old htb⟩) hs (.cons rfl (.cons rfl (.cons rfl .nil))) rfl ?_
  rintro _ _ rfl hs _
  refine s_pu (p_assign rfl) rfl ?_
  refine WL_th ?_
  refine W_forget (Ext.cd 0 rfl (Ext.cd 2 rfl (Ext.cd 29 rfl (Ext.cd 30 rfl (Ext.nil _))))) ?_
  refine W_sr ?_
  refine s_pu (p_move rfl) rfl ?_
  refine k_neP rfl rfl ?_
  refine WL_th ?_
  refine W_if rfl (fun hck => ?_) (fun hck => ?_)
  ·
   refine W_sr ?_
   refine s_pu (p_move rfl) rfl ?_
   refine s_pu (p_assign rfl) rfl ?_
   refine WL_th ?_
   refine W_ret ?_
   refine th_ret ?_
   refine bl_ret ?_
   refine th_ret ?_
   refine ret_tmp (fn := Tryz.f22) rfl rfl ?_
   exact ⟨by rw [findP_ne hne]; obtain ⟨r, hr⟩ := Option.isSome_iff_exists.1 hck; simp [findPs, hr], hs.keep0⟩
  ·
   refine W_skip_th ?_
   refine W_sr ?_
   refine s_pu (p_move rfl) rfl ?_
   refine s_pu (p_move rfl) rfl ?_
   refine s_pu (p_move rfl) rfl ?_
   refine s_pu (p_nilCheck rfl) rfl ?_
   refine s_pu (p_field rfl) rfl ?_
   refine kq_ldv (o := 4) (hs.old h1) hf3 rfl (by omega) rfl ?_
   refine k_quiet (hWj _ fb tT tb 126 b (hs.old hfb) (hRj.keep (hs.keep.sames.on _) (fun _ => id)) ⟨_, _, _, hs.old htb⟩) hs (.cons rfl (.cons rfl (.cons rfl .nil))) rfl ?_
   rintro _ _ rfl hs _
   refine s_pu (p_assign rfl) rfl ?_
   refine WL_th ?_
   refine W_forget (Ext.cd 6 rfl (Ext.nil _)) ?_
   refine W_ret ?_
   refine bl_ret ?_
   refine th_ret ?_
   refine ret_tmp (fn := Tryz.f22) rfl rfl ?_
   exact ⟨by rw [findP_ne hne]; have hn0 := Option.isNone_iff_eq_none.1 (by simpa using hck); simp [findPs, hn0], hs.keep0⟩
theorem c_find128 (b : Nat) (k j : AT) (hWk : FindOK k) (hWj : FindOK j) : FindOK (.mk 128 b [k, j]) := by
 intro w fb tT tb pT pb hfb hR ⟨tn, tf, tT', htb⟩
 have hs := St.startNone w
 obtain ⟨n, T', f, bb, g, _, _, h1, hf0, h3, hg1, hB⟩ := hR.node
 change Below1 w _ f 128 n [k, j] at hB
 have hRk : RepA w (fun _ => True) k := hR.all _ (by simp [AT.kids])
 have hRj : RepA w (fun _ => True) j := hR.all _ (by simp [AT.kids])
 obtain ⟨hf2, hf3, rfl⟩ : f 2 = k.val ∧ f 3 = j.val ∧ n = 4 := by cases hB; exact ⟨by assumption, by assumption, rfl⟩
 refine calls_W (args := [_, _, _]) Tryz.func22 rfl Tryz.ntmps22 rfl ?_
 refine W_sr ?_
 refine s_pu (p_assign rfl) rfl ?_
 refine WL_th ?_
 refine W_seq ?_
 refine W_sr ?_
 refine s_pu (p_move rfl) rfl ?_
 refine s_pu (p_nilCheck rfl) rfl ?_
 refine s_pu (p_field rfl) rfl ?_
 refine kq_ldv (o := 0) (hs.old hfb) rfl rfl (by omega) rfl ?_
 refine s_pu (p_move rfl) rfl ?_
 refine k_eqII (V' := 128) (b' := b) rfl rfl (hs.old htb) (hs.old h1) rfl ?_
 refine WL_th ?_
 refine W_if rfl (fun h43 => ?_) (fun h43 => ?_)
 ·
  refine W_sr ?_
  refine s_pu (p_move rfl) rfl ?_
  refine s_pu (p_assign rfl) rfl ?_
  refine WL_th ?_
  refine W_ret ?_
  refine th_ret ?_
  refine ret_tmp (fn := Tryz.f22) rfl rfl ?_
  exact ⟨by rw [findP_eq (of_decide_eq_true h43)]; rfl, hs.keep0⟩
 ·
  have hne := of_decide_eq_false h43
  refine W_skip_th ?_
  refine W_seq ?_
  refine W_sr ?_
  refine s_pu (p_move rfl) rfl ?_
  refine WL_th ?_
  refine W_block ?_
  refine ta_no rfl rfl rfl ?_
  refine W_forget (Ext.cd 0 rfl (Ext.cd 2 rfl (Ext.cd 45 rfl (Ext.nil _)))) ?_
  refine ta_no rfl rfl rfl ?_
  refine ta_no rfl rfl rfl ?_
  refine ta_no rfl rfl rfl ?_
  refine ta_no rfl rfl rfl ?_
  refine W_forget (Ext.cd 0 rfl (Ext.cd 2 rfl (Ext.cd 45 rfl (Ext.nil _)))) ?_
  refine ta_no rfl rfl rfl ?_
  refine ta_no rfl rfl rfl ?_
  refine ta_no rfl rfl rfl ?_
  refine ta_no rfl rfl rfl ?_
  refine W_forget (Ext.cd 0 rfl (Ext.cd 2 rfl (Ext.cd 45 rfl (Ext.nil _)))) ?_
  refine ta_no rfl rfl rfl ?_
  refine ta_no rfl rfl rfl ?_
  refine ta_no rfl rfl rfl ?_
  refine ta_no rfl rfl rfl ?_
  refine W_forget (Ext.cd 0 rfl (Ext.cd 2 rfl (Ext.cd 45 rfl (Ext.nil _)))) ?_
  refine ta_no rfl rfl rfl ?_
  refine ta_no rfl rfl rfl ?_
  refine ta_no rfl rfl rfl ?_
  refine ta_no rfl rfl rfl ?_
  refine W_forget (Ext.cd 0 rfl (Ext.cd 2 rfl (Ext.cd 45 rfl (Ext.nil _)))) ?_
  refine ta_yes rfl rfl ?_
  refine W_sr ?_
  refine s_pu (p_assign rfl) rfl ?_
  refine WL_th ?_
  refine W_seq ?_
  refine W_sr ?_
  refine s_pu (p_move rfl) rfl ?_
  refine s_pu (p_move rfl) rfl ?_
  refine s_pu (p_move rfl) rfl ?_
  refine s_pu (p_nilCheck rfl) rfl ?_
  refine s_pu (p_field rfl) rfl ?_
  refine kq_ldv (o := 2) (hs.old h1) hf2 rfl (by omega) rfl ?_
  refine k_quiet (hWk _ fb tT tb 128 b (hs.old hfb) (hRk.keep (hs.keep.sames.on _) (fun _ => id)) ⟨_, _, _, hs.old htb⟩) hs (.cons rfl (.cons rfl (.cons rfl .nil))) rfl ?_
  rintro _ _ rfl hs _
  refine s_pu (p_assign rfl) rfl ?_
  refine WL_th ?_
  refine W_forget (Ext.cd 0 rfl (Ext.cd 2 rfl (Ext.cd 35 rfl (Ext.cd 36 rfl (Ext.nil _))))) ?_
  refine W_sr ?_
  refine s_pu (p_move rfl) rfl ?_
  refine k_neP rfl rfl ?_
  refine WL_th ?_
  refine W_if rfl (fun hck => ?_) (fun hck => ?_)
  ·
   refine W_sr ?_
   refine s_pu (p_move rfl) rfl ?_
   refine s_pu (p_assign rfl) rfl ?_
   refine WL_th ?_
   refine W_ret ?_
   refine th_ret ?_
   refine bl_ret ?_
   refine th_ret ?_
   refine ret_tmp (fn := Tryz.f22) rfl rfl ?_
   exact ⟨by rw [findP_ne hne]; obtain ⟨r, hr⟩ := Option.isSome_iff_exists.1 hck; simp [findPs, hr], hs.keep0⟩
  ·
   refine W_skip_th ?_
   refine W_sr ?_
   refine s_pu (p_move rfl) rfl ?_
   refine s_pu (p_move rfl) rfl ?_
   refine s_pu (p_move rfl) rfl ?_
   refine s_pu (p_nilCheck rfl) rfl ?_
   refine s_pu (p_field rfl) rfl ?_
   refine kq_ldv (o := 3) (hs.old h1) hf3 rfl (by omega) rfl ?_
   refine k_quiet (hWj _ fb tT tb 128 b (hs.old hfb) (hRj.keep (hs.keep.sames.on _) (fun _ => id)) ⟨_, _, _, hs.old htb⟩) hs (.cons rfl (.cons rfl (.cons rfl .nil))) rfl ?_
   rintro _ _ rfl hs _
   refine s_pu (p_assign rfl) rfl ?_
   refine WL_th ?_
   refine W_forget (Ext.cd 6 rfl (Ext.nil _)) ?_
   refine W_ret ?_
   refine bl_ret ?_
   refine th_ret ?_
   refine ret_tmp (fn := Tryz.f22) rfl rfl ?_
   exact ⟨by rw [findP_ne hne]; have hn0 := Option.isNone_iff_eq_none.1 (by simpa using hck); simp [findPs, hn0], hs.keep0⟩
theorem c_find116 (b : Nat) (ks : List AT) (hW : ∀ k ∈ ks, FindOK k) (hlen : (ks.map AT.ptr).length ≤ 9000000000) : FindOK (.mk 116 b ks) := by
 intro wI fb tT tb pT pb hfb hR ⟨tn, tf, tT', htb⟩
 have hs := St.startNone wI
 obtain ⟨n, T', f, bb, g, _, _, h1, hf0, h3, hg1, hB⟩ := hR.node
 change Below1 wI _ f 116 n ks at hB
 obtain ⟨u, hf4, hE, rfl, hT⟩ : ∃ u, f 4 = u ∧ ElemsAt wI (fun _ => True) u (ks.map AT.ptr) ∧ n = 6 ∧ ∀ k ∈ ks, k.T = 126 := by
  cases hB with
  | leaf h _ => exact absurd h (by decide)
  | map e1 e2 e3 => exact ⟨_, e1, e2, rfl, e3⟩
 obtain ⟨ad, cap, rfl, hall⟩ := hE.out
 have hlk : ks.length ≤ 9000000000 := by simpa using hlen
 refine calls_W (args := [_, _, _]) Tryz.func22 rfl Tryz.ntmps22 rfl ?_
 refine W_sr ?_
 refine s_pu (p_assign rfl) rfl ?_
 refine WL_th ?_
 refine W_seq ?_
 refine W_sr ?_
 refine s_pu (p_move rfl) rfl ?_
 refine s_pu (p_nilCheck rfl) rfl ?_
 refine s_pu (p_field rfl) rfl ?_
 refine kq_ldv (o := 0) (hs.old hfb) rfl rfl (by omega) rfl ?_
 refine s_pu (p_move rfl) rfl ?_
 refine k_eqII (V' := 116) (b' := b) rfl rfl (hs.old htb) (hs.old h1) rfl ?_
 refine WL_th ?_
 refine W_if rfl (fun h43 => ?_) (fun h43 => ?_)
 ·
  refine W_sr ?_
  refine s_pu (p_move rfl) rfl ?_
  refine s_pu (p_assign rfl) rfl ?_
  refine WL_th ?_
  refine W_ret ?_
  refine th_ret ?_
  refine ret_tmp (fn := Tryz.f22) rfl rfl ?_
  exact ⟨by rw [findP_eq (of_decide_eq_true h43)]; rfl, hs.keep0⟩
 ·
  have hne := of_decide_eq_false h43
  refine W_skip_th ?_
  refine W_seq ?_
  refine W_sr ?_
  refine s_pu (p_move rfl) rfl ?_
  refine WL_th ?_
  refine W_block ?_
  refine ta_no rfl rfl rfl ?_
  refine W_forget (Ext.cd 0 rfl (Ext.cd 2 rfl (Ext.cd 45 rfl (Ext.nil _)))) ?_
  refine ta_no rfl rfl rfl ?_
  refine ta_no rfl rfl rfl ?_
  refine ta_no rfl rfl rfl ?_
  refine ta_no rfl rfl rfl ?_
  refine W_forget (Ext.cd 0 rfl (Ext.cd 2 rfl (Ext.cd 45 rfl (Ext.nil _)))) ?_
  refine ta_no rfl rfl rfl ?_
  refine ta_no rfl rfl rfl ?_
  refine ta_no rfl rfl rfl ?_
  refine ta_no rfl rfl rfl ?_
  refine W_forget (Ext.cd 0 rfl (Ext.cd 2 rfl (Ext.cd 45 rfl (Ext.nil _)))) ?_
  refine ta_no rfl rfl rfl ?_
  refine ta_no rfl rfl rfl ?_
  refine ta_no rfl rfl rfl ?_
  refine ta_no rfl rfl rfl ?_
  refine W_forget (Ext.cd 0 rfl (Ext.cd 2 rfl (Ext.cd 45 rfl (Ext.nil _)))) ?_
  refine ta_yes rfl rfl ?_
  refine W_sr ?_
  refine s_pu (p_assign rfl) rfl ?_
  refine WL_th ?_
  refine W_sr ?_
  refine s_pu (p_move rfl) rfl ?_
  refine s_pu (p_nilCheck rfl) rfl ?_
  refine s_pu (p_field rfl) rfl ?_
  refine kq_ldv (o := 4) (hs.old h1) hf4 rfl (by omega) rfl ?_
  refine s_pu (p_lenL rfl) rfl ?_
  refine s_pu (p_move rfl) rfl ?_
  refine WL_th ?_
  refine W_block ?_
  refine W_loop (α := Nat) (fun x => (upd (upd (upd (upd (upd emp 142 (.int .i64 x)) 141 (.int .i64 (ks.map AT.ptr).length)) 140 (.slice ad (ks.map AT.ptr).length cap)) 2 (AT.val (.mk 116 b ks))) 0 (.pointer (some ⟨fb, 0, none⟩)))) (fun x w => x ≤ ks.length ∧ findPs (116, b) (tT, tb) (ks.take x) = none ∧ St wI (fun _ => False) w []) (fun x => ks.length - x) 0 (Ext.cons rfl (Ext.cons rfl (Ext.cons rfl (Ext.cons rfl (Ext.cons rfl (Ext.nil _)))))) ⟨Nat.zero_le _, rfl, hs⟩ (fun x w hx => ?_)
  obtain ⟨hle, hno, hs⟩ := hx
  refine W_sr ?_
  refine s_pu (p_ltI rfl rfl) rfl ?_
  refine WL_th ?_
  refine W_seq ?_
  refine W_if rfl (fun h11 => ?_) (fun h11 => ?_)
  ·
   have hlt : x < ks.length := by simpa using h11
   obtain ⟨k, hki⟩ : ∃ k, ks[x]? = some k := ⟨_, List.getElem?_eq_getElem hlt⟩
   have hkm := List.mem_of_getElem? hki
   have hRk := hR.all k hkm
   have hWk := hW k hkm
   have hkT := hT k hkm
   obtain ⟨kT, kb, kk⟩ := k
   obtain rfl : kT = 126 := hkT
   refine W_skip_th ?_
   refine W_seq ?_
   refine W_block ?_
   refine W_sr ?_
   obtain ⟨rb, rfl, hcell⟩ := hall x (AT.ptr (AT.mk 126 kb kk)) (by simp [hki])
   refine s_pu (p_elem rfl rfl (by omega) (by simp; omega)) rfl ?_
   refine kc_ldv (hcell _ (hs.keep.sames.on _)) rfl rfl rfl ?_
   refine s_pu (p_assign rfl) rfl ?_
   refine WL_th ?_
   refine W_sr ?_
   refine s_pu (p_move rfl) rfl ?_
   refine s_pu (p_move rfl) rfl ?_
   refine s_pu (p_move rfl) rfl ?_
   refine s_pu (p_iface rfl) rfl ?_
   refine k_quiet (hWk _ fb tT tb 116 b (hs.old hfb) (hRk.keep (hs.keep.sames.on _) (fun _ => id)) ⟨_, _, _, hs.old htb⟩) hs (.cons rfl (.cons rfl (.cons rfl .nil))) rfl ?_
   rintro _ _ rfl hs _
   refine s_pu (p_assign rfl) rfl ?_
   refine WL_th ?_
   refine W_sr ?_
   refine s_pu (p_move rfl) rfl ?_
   refine k_neP rfl rfl ?_
   refine WL_th ?_
   refine W_if rfl (fun hck => ?_) (fun hck => ?_)
   ·
    refine W_sr ?_
    refine s_pu (p_move rfl) rfl ?_
    refine s_pu (p_assign rfl) rfl ?_
    refine WL_th ?_
    refine W_forget (Ext.cd 6 rfl (Ext.nil _)) ?_
    refine W_ret ?_
    refine bl_ret ?_
    refine th_ret ?_
    refine th_ret ?_
    refine bl_ret ?_
    refine bl_ret ?_
    refine th_ret ?_
    refine ret_tmp (fn := Tryz.f22) rfl rfl ?_
    exact ⟨by rw [findP_ne hne, findPs_split hki hno hck], hs.keep0⟩
   ·
    refine W_skip ?_
    show W _ _ _ _ _ _
    refine W_forget (Ext.cd 0 rfl (Ext.cd 2 rfl (Ext.cd 140 rfl (Ext.cd 141 rfl (Ext.cd 142 rfl (Ext.nil _)))))) ?_
    refine W_reg ?_
    refine s_pu (p_addI rfl rfl ?_) rfl ?_
    ·
     (first | assumption | omega)
    refine s_pu (p_move rfl) rfl ?_
    refine WL_th ?_
    refine ⟨x + 1, (Ext.cons rfl (Ext.cons rfl (Ext.cons rfl (Ext.cons rfl (Ext.cons (by show some (Value.int .i64 ((x : Int) + 1)) = _; simp) (Ext.nil _)))))), ⟨by omega, by rw [findPs_take hki, hno]; simpa using hck, hs⟩, by omega⟩
  ·
   refine W_exit ?_
   show W _ _ _ _ _ _
   refine W_sr ?_
   refine s_pu (p_assign rfl) rfl ?_
   refine WL_th ?_
   refine W_ret ?_
   refine ret_tmp (fn := Tryz.f22) rfl rfl ?_
   have hfull : x = ks.length := by have : ¬ (x < ks.length) := (by simpa using h11); omega
   exact ⟨by rw [hfull, List.take_length] at hno; rw [findP_ne hne, hno]; rfl, hs.keep0⟩
theorem c_find175 (b : Nat) (ks : List AT) (hW : ∀ k ∈ ks, FindOK k) (hlen : (ks.map AT.val).length ≤ 9000000000) : FindOK (.mk 175 b ks) := by
 intro wI fb tT tb pT pb hfb hR ⟨tn, tf, tT', htb⟩
 have hs := St.startNone wI
 obtain ⟨n, T', f, bb, g, _, _, h1, hf0, h3, hg1, hB⟩ := hR.node
 change Below1 wI _ f 175 n ks at hB
 obtain ⟨u, hf4, hE, rfl⟩ : ∃ u, f 4 = u ∧ ElemsAt wI (fun _ => True) u (ks.map AT.val) ∧ n = 8 := by
  cases hB with
  | leaf h _ => exact absurd h (by decide)
  | seq e1 e2 => exact ⟨_, e1, e2, rfl⟩
 obtain ⟨ad, cap, rfl, hall⟩ := hE.out
 have hlk : ks.length ≤ 9000000000 := by simpa using hlen
 refine calls_W (args := [_, _, _]) Tryz.func22 rfl Tryz.ntmps22 rfl ?_
 refine W_sr ?_
 refine s_pu (p_assign rfl) rfl ?_
 refine WL_th ?_
 refine W_seq ?_
 refine W_sr ?_
 refine s_pu (p_move rfl) rfl ?_
 refine s_pu (p_nilCheck rfl) rfl ?_
 refine s_pu (p_field rfl) rfl ?_
 refine kq_ldv (o := 0) (hs.old hfb) rfl rfl (by omega) rfl ?_
 refine s_pu (p_move rfl) rfl ?_
 refine k_eqII (V' := 175) (b' := b) rfl rfl (hs.old htb) (hs.old h1) rfl ?_
 refine WL_th ?_
 refine W_if rfl (fun h43 => ?_) (fun h43 => ?_)
 ·
  refine W_sr ?_
  refine s_pu (p_move rfl) rfl ?_
  refine s_pu (p_assign rfl) rfl ?_
  refine WL_th ?_
  refine W_ret ?_
  refine th_ret ?_
  refine ret_tmp (fn := Tryz.f22) rfl rfl ?_
  exact ⟨by rw [findP_eq (of_decide_eq_true h43)]; rfl, hs.keep0⟩
 ·
  have hne := of_decide_eq_false h43
  refine W_skip_th ?_
  refine W_seq ?_
  refine W_sr ?_
  refine s_pu (p_move rfl) rfl ?_
  refine WL_th ?_
  refine W_block ?_
  refine ta_no rfl rfl rfl ?_
  refine W_forget (Ext.cd 0 rfl (Ext.cd 2 rfl (Ext.cd 45 rfl (Ext.nil _)))) ?_
  refine ta_no rfl rfl rfl ?_
  refine ta_no rfl rfl rfl ?_
  refine ta_no rfl rfl rfl ?_
  refine ta_no rfl rfl rfl ?_
  refine W_forget (Ext.cd 0 rfl (Ext.cd 2 rfl (Ext.cd 45 rfl (Ext.nil _)))) ?_
  refine ta_no rfl rfl rfl ?_
  refine ta_no rfl rfl rfl ?_
  refine ta_no rfl rfl rfl ?_
  refine ta_no rfl rfl rfl ?_
  refine W_forget (Ext.cd 0 rfl (Ext.cd 2 rfl (Ext.cd 45 rfl (Ext.nil _)))) ?_
  refine ta_no rfl rfl rfl ?_
  refine ta_no rfl rfl rfl ?_
  refine ta_no rfl rfl rfl ?_
  refine ta_no rfl rfl rfl ?_
  refine W_forget (Ext.cd 0 rfl (Ext.cd 2 rfl (Ext.cd 45 rfl (Ext.nil _)))) ?_
  refine ta_no rfl rfl rfl ?_
  refine ta_no rfl rfl rfl ?_
  refine ta_no rfl rfl rfl ?_
  refine ta_yes rfl rfl ?_
  refine W_sr ?_
  refine s_pu (p_assign rfl) rfl ?_
  refine WL_th ?_
  refine W_forget (Ext.cd 0 rfl (Ext.cd 2 rfl (Ext.cd 31 rfl (Ext.nil _)))) ?_
  refine W_sr ?_
  refine s_pu (p_move rfl) rfl ?_
  refine s_pu (p_nilCheck rfl) rfl ?_
  refine s_pu (p_field rfl) rfl ?_
  refine kq_ldv (o := 4) (hs.old h1) hf4 rfl (by omega) rfl ?_
  refine s_pu (p_lenL rfl) rfl ?_
  refine s_pu (p_move rfl) rfl ?_
  refine WL_th ?_
  refine W_block ?_
  refine W_loop (α := Nat) (fun x => (upd (upd (upd (upd (upd emp 193 (.int .i64 x)) 192 (.int .i64 (ks.map AT.val).length)) 191 (.slice ad (ks.map AT.val).length cap)) 2 (AT.val (.mk 175 b ks))) 0 (.pointer (some ⟨fb, 0, none⟩)))) (fun x w => x ≤ ks.length ∧ findPs (175, b) (tT, tb) (ks.take x) = none ∧ St wI (fun _ => False) w []) (fun x => ks.length - x) 0 (Ext.cons rfl (Ext.cons rfl (Ext.cons rfl (Ext.cons rfl (Ext.cons rfl (Ext.nil _)))))) ⟨Nat.zero_le _, rfl, hs⟩ (fun x w hx => ?_)
  obtain ⟨hle, hno, hs⟩ := hx
  refine W_sr ?_
  refine s_pu (p_ltI rfl rfl) rfl ?_
  refine WL_th ?_
  refine W_seq ?_
  refine W_if rfl (fun h11 => ?_) (fun h11 => ?_)
  ·
   have hlt : x < ks.length := by simpa using h11
   obtain ⟨k, hki⟩ : ∃ k, ks[x]? = some k := ⟨_, List.getElem?_eq_getElem hlt⟩
   have hkm := List.mem_of_getElem? hki
   have hRk := hR.all k hkm
   have hWk := hW k hkm
   refine W_skip_th ?_
   refine W_seq ?_
   refine W_block ?_
   refine W_sr ?_
   obtain ⟨rb, rfl, hcell⟩ := hall x (AT.val k) (by simp [hki])
   refine s_pu (p_elem rfl rfl (by omega) (by simp; omega)) rfl ?_
   refine kc_ldv (hcell _ (hs.keep.sames.on _)) rfl rfl rfl ?_
   refine s_pu (p_assign rfl) rfl ?_
   refine WL_th ?_
   refine W_sr ?_
   refine s_pu (p_move rfl) rfl ?_
   refine s_pu (p_move rfl) rfl ?_
   refine s_pu (p_move rfl) rfl ?_
   refine k_quiet (hWk _ fb tT tb 175 b (hs.old hfb) (hRk.keep (hs.keep.sames.on _) (fun _ => id)) ⟨_, _, _, hs.old htb⟩) hs (.cons rfl (.cons rfl (.cons rfl .nil))) rfl ?_
   rintro _ _ rfl hs _
   refine s_pu (p_assign rfl) rfl ?_
   refine WL_th ?_
   refine W_sr ?_
   refine s_pu (p_move rfl) rfl ?_
   refine k_neP rfl rfl ?_
   refine WL_th ?_
   refine W_if rfl (fun hck => ?_) (fun hck => ?_)
   ·
    refine W_sr ?_
    refine s_pu (p_move rfl) rfl ?_
    refine s_pu (p_assign rfl) rfl ?_
    refine WL_th ?_
    refine W_forget (Ext.cd 6 rfl (Ext.nil _)) ?_
    refine W_ret ?_
    refine bl_ret ?_
    refine th_ret ?_
    refine th_ret ?_
    refine bl_ret ?_
    refine bl_ret ?_
    refine th_ret ?_
    refine ret_tmp (fn := Tryz.f22) rfl rfl ?_
    exact ⟨by rw [findP_ne hne, findPs_split hki hno hck], hs.keep0⟩
   ·
    refine W_skip ?_
    show W _ _ _ _ _ _
    refine W_forget (Ext.cd 0 rfl (Ext.cd 2 rfl (Ext.cd 191 rfl (Ext.cd 192 rfl (Ext.cd 193 rfl (Ext.nil _)))))) ?_
    refine W_reg ?_
    refine s_pu (p_addI rfl rfl ?_) rfl ?_
    ·
     (first | assumption | omega)
    refine s_pu (p_move rfl) rfl ?_
    refine WL_th ?_
    refine ⟨x + 1, (Ext.cons rfl (Ext.cons rfl (Ext.cons rfl (Ext.cons rfl (Ext.cons (by show some (Value.int .i64 ((x : Int) + 1)) = _; simp) (Ext.nil _)))))), ⟨by omega, by rw [findPs_take hki, hno]; simpa using hck, hs⟩, by omega⟩
  ·
   refine W_exit ?_
   show W _ _ _ _ _ _
   refine W_sr ?_
   refine s_pu (p_assign rfl) rfl ?_
   refine WL_th ?_
   refine W_ret ?_
   refine ret_tmp (fn := Tryz.f22) rfl rfl ?_
   have hfull : x = ks.length := by have : ¬ (x < ks.length) := (by simpa using h11); omega
   exact ⟨by rw [hfull, List.take_length] at hno; rw [findP_ne hne, hno]; rfl, hs.keep0⟩
theorem c_find : ∀ (n : Nat) (t : AT), t.size ≤ n → n ≤ 9000000 → FindOK t := by
 intro n
 induction n with
 | zero => intro t h; have := one_le_asize t; omega
 | succ n ih =>
  intro t hsz hn w fb tT tb pT pb hfb hR hx
  obtain ⟨T, b, ks⟩ := t
  simp only [AT.size] at hsz
  have hlen := alength_size ks
  have hk : ∀ k ∈ ks, FindOK k := fun k hk => ih k (by have := amem_size hk; omega) (by omega)
  obtain ⟨m, T', f, bb, g, hSb, hSbb, h1, hf0, h3, hg1, hB⟩ := hR.node
  change Below1 w _ f T m ks at hB
  cases hB with
  | leaf h _ =>
   unfold leafT at h
   simp only [Bool.or_eq_true, beq_iff_eq] at h
   rcases h with (((((rfl | rfl) | rfl) | rfl) | rfl) | rfl) | rfl
   ·
    exact c_find96 b w _ _ _ _ _ hfb hR hx
   ·
    exact c_find98 b w _ _ _ _ _ hfb hR hx
   ·
    exact c_find100 b w _ _ _ _ _ hfb hR hx
   ·
    exact c_find102 b w _ _ _ _ _ hfb hR hx
   ·
    exact c_find104 b w _ _ _ _ _ hfb hR hx
   ·
    exact c_find106 b w _ _ _ _ _ hfb hR hx
   ·
    exact c_find143 b w _ _ _ _ _ hfb hR hx
  | @lit k h _ =>
   obtain ⟨kT, kb, kk⟩ := k
   obtain rfl : kT = 106 := h
   exact c_find110 b kb kk (hk _ (by simp)) w _ _ _ _ _ hfb hR hx
  | map h1 h2 h3 => exact c_find116 b ks hk (by simp; omega) w _ _ _ _ _ hfb hR hx
  | pair _ _ => exact c_find126 b _ _ (hk _ (by simp)) (hk _ (by simp)) w _ _ _ _ _ hfb hR hx
  | seq _ _ => exact c_find175 b ks hk (by simp; omega) w _ _ _ _ _ hfb hR hx
  | anchor _ _ => exact c_find128 b _ _ (hk _ (by simp)) (hk _ (by simp)) w _ _ _ _ _ hfb hR hx
  | alias _ => exact c_find132 b _ (hk _ (by simp)) w _ _ _ _ _ hfb hR hx
  | tag _ => exact c_find139 b _ (hk _ (by simp)) w _ _ _ _ _ hfb hR hx
theorem ptrT_of {w : World} {S : Foot} {t : AT} (h : NodeAt w S t) : PtrT Tryz.prog t.T := by
 obtain ⟨m, T', f, bb, g, hSb, hSbb, h1, hf0, h3, hg1, hB⟩ := h
 obtain ⟨T, b, ks⟩ := t
 change Below1 w _ f T m ks at hB
 show PtrT Tryz.prog T
 cases hB with
 | leaf h _ =>
  unfold leafT at h
  simp only [Bool.or_eq_true, beq_iff_eq] at h
  rcases h with (((((rfl | rfl) | rfl) | rfl) | rfl) | rfl) | rfl <;> infer_instance
 | lit _ _ => infer_instance
 | map _ _ _ => infer_instance
 | pair _ _ => infer_instance
 | seq _ _ => infer_instance
 | anchor _ _ => infer_instance
 | alias _ => infer_instance
 | tag _ => infer_instance
theorem c_Parent (t : AT) (tT tb : Nat) (w : World) (hsz : t.size ≤ 1000000) (hR : RepA w (fun _ => True) t) (htb : ∃ n f T', w.heap[tb]? = some (.cells (mkA n f) T' (0, 0))) : Quiet Tryz.prog 14 [t.val, .iface tT (.pointer (some ⟨tb, 0, none⟩))] w fun v => v = valP (findP (t.T, t.b) (tT, tb) t) := by
 have hs := St.startNone w
 obtain ⟨tn, tf, tT', htb⟩ := htb
 refine calls_W (args := [_, _]) Tryz.func14 rfl Tryz.ntmps14 rfl ?_
 refine W_sr ?_
 refine s_pu (p_assign rfl) rfl ?_
 refine WL_th ?_
 refine W_sr ?_
 refine s_pu (p_move rfl) rfl ?_
 refine s_pu (p_st (.one rfl rfl rfl .nil)) rfl ?_
 refine k_box hs rfl rfl ?_
 intro b8 _ hs
 have hs := hs.imp .head (pt_to (g := cl [.iface tT (.pointer (some ⟨tb, 0, none⟩))]) (by repeat (first | exact below_zero | refine below_succ ?_ rfl)))
 refine s_pu (p_assign rfl) rfl ?_
 refine WL_th ?_
 refine W_sr ?_
 refine s_pu (p_move rfl) rfl ?_
 refine s_pu (p_move rfl) rfl ?_
 refine s_pu (p_move rfl) rfl ?_
 refine k_quiet (c_find _ t hsz (by omega) _ b8 tT tb t.T t.b (hs.cell .head) (hR.keep (hs.keep.sames.on _) (fun _ => id)) ⟨_, _, _, hs.old htb⟩) hs (.cons rfl (.cons rfl (.cons rfl .nil))) rfl ?_
 rintro _ _ rfl hs _
 refine s_pu (p_assign rfl) rfl ?_
 refine WL_th ?_
 refine W_ret ?_
 refine ret_tmp (fn := Tryz.f14) rfl rfl ?_
 exact ⟨rfl, hs.keep0⟩
def whichI (o : Option (Nat × Nat)) (ts : List AT) : Int := match o with
 | none => -1
 | some q => match ts.findIdx? (fun t => (t.T, t.b) = q) with
  | some i => i
  | none => -2
theorem c_which_nil (v : Value) (w : World) : Quiet Tryz.prog 13 [v, .nilIface] w fun r => r = .int .i64 (-1) := by
 have hs := St.startNone w
 refine calls_W (args := [_, _]) Tryz.func13 rfl Tryz.ntmps13 rfl ?_
 refine W_sr ?_
 refine s_pu (p_assign rfl) rfl ?_
 refine WL_th ?_
 refine W_seq ?_
 refine W_sr ?_
 refine s_pu (p_move rfl) rfl ?_
 refine s_pu (p_eqNN rfl) rfl ?_
 refine WL_th ?_
 refine W_true rfl ?_
 refine W_sr ?_
 refine s_pu (p_assign rfl) rfl ?_
 refine WL_th ?_
 refine W_ret ?_
 refine th_ret ?_
 refine ret_tmp (fn := Tryz.f13) rfl rfl ?_
 exact ⟨rfl, hs.keep0⟩
theorem c_which (v : Value) (ts : List AT) (qT qb : Nat) (wI : World) (hlen : ts.length ≤ 1000000) (hE : ElemsAt wI (fun _ => True) v (ts.map AT.val)) (hN : ∀ t ∈ ts, NodeAt wI (fun _ => True) t) (hq : PtrT Tryz.prog qT) (hqb : ∃ n f T', wI.heap[qb]? = some (.cells (mkA n f) T' (0, 0))) :
  Quiet Tryz.prog 13 [v, .iface qT (.pointer (some ⟨qb, 0, none⟩))] wI fun r => r = .int .i64 (whichI (some (qT, qb)) ts) := by
 have hs := St.startNone wI
 obtain ⟨tn, tf, tT', htb⟩ := hqb
 obtain ⟨ad, cap, rfl, hall⟩ := hE.out
 refine calls_W (args := [_, _]) Tryz.func13 rfl Tryz.ntmps13 rfl ?_
 refine W_sr ?_
 refine s_pu (p_assign rfl) rfl ?_
 refine WL_th ?_
 refine W_seq ?_
 refine W_sr ?_
 refine s_pu (p_move rfl) rfl ?_
 refine s_pu (p_eqNil rfl) rfl ?_
 refine WL_th ?_
 refine W_false rfl ?_
 refine W_skip_th ?_
 refine W_seq ?_
 refine W_sr ?_
 refine s_pu (p_move rfl) rfl ?_
 refine s_pu (p_lenL rfl) rfl ?_
 refine s_pu (p_move rfl) rfl ?_
 refine WL_th ?_
 refine W_block ?_
 refine W_loop (α := Nat) (fun x => (upd (upd (upd (upd emp 10 (.int .i64 x)) 9 (.int .i64 (ts.map AT.val).length)) 1 (.iface qT (.pointer (some ⟨qb, 0, none⟩)))) 0 (.slice ad (ts.map AT.val).length cap))) (fun x w => x ≤ ts.length ∧ (∀ (j : Nat) (t : AT), j < x → ts[j]? = some t → ¬ (t.T, t.b) = (qT, qb)) ∧ St wI (fun _ => False) w []) (fun x => ts.length - x) 0 (Ext.cons rfl (Ext.cons rfl (Ext.cons rfl (Ext.cons rfl (Ext.nil _))))) ⟨Nat.zero_le _, fun j t h => by omega, hs⟩ (fun x w hx => ?_)
 obtain ⟨hle, hno, hs⟩ := hx
 refine W_sr ?_
 refine s_pu (p_ltI rfl rfl) rfl ?_
 refine WL_th ?_
 refine W_seq ?_
 refine W_if rfl (fun h11 => ?_) (fun h11 => ?_)
 ·
  have hlt : x < ts.length := by simpa using h11
  obtain ⟨k, hki⟩ : ∃ k, ts[x]? = some k := ⟨_, List.getElem?_eq_getElem hlt⟩
  have hkm := List.mem_of_getElem? hki
  obtain ⟨m, T', f, bb, g, _, _, h1, _⟩ := hN k hkm
  refine W_skip_th ?_
  refine W_seq ?_
  refine W_block ?_
  refine W_sr ?_
  refine s_pu (p_move rfl) rfl ?_
  refine s_pu (p_assign rfl) rfl ?_
  refine WL_th ?_
  refine W_sr ?_
  refine s_pu (p_move rfl) rfl ?_
  refine s_pu (p_move rfl) rfl ?_
  obtain ⟨rb, rfl, hcell⟩ := hall x k.val (by simp [hki])
  refine s_pu (p_elem rfl rfl (by omega) (by simp; omega)) rfl ?_
  refine kc_ldv (hcell _ (hs.keep.sames.on _)) rfl rfl rfl ?_
  refine s_pu (p_move rfl) rfl ?_
  haveI := hq
  refine k_eqII (V := k.T) (b := k.b) (V' := qT) (b' := qb) rfl rfl (hs.old h1) (hs.old htb) rfl ?_
  refine WL_th ?_
  refine W_if rfl (fun h18 => ?_) (fun h18 => ?_)
  ·
   refine W_sr ?_
   refine s_pu (p_move rfl) rfl ?_
   refine s_pu (p_assign rfl) rfl ?_
   refine WL_th ?_
   refine W_forget (Ext.cd 4 rfl (Ext.nil _)) ?_
   refine W_ret ?_
   refine bl_ret ?_
   refine th_ret ?_
   refine th_ret ?_
   refine bl_ret ?_
   refine th_ret ?_
   refine ret_tmp (fn := Tryz.f13) rfl rfl ?_
   refine ⟨?_, hs.keep0⟩
   have hd := of_decide_eq_true h18
   have hf : ts.findIdx? (fun t => (t.T, t.b) = (qT, qb)) = some x := by
    rw [List.findIdx?_eq_some_iff_getElem]
    refine ⟨hlt, ?_, fun j hj => ?_⟩
    ·
     have : ts[x] = k := by rw [List.getElem?_eq_getElem hlt] at hki; exact Option.some.inj hki
     simp [this, hd.1, hd.2]
    ·
     have hjl : j < ts.length := by omega
     have := hno j ts[j] hj (List.getElem?_eq_getElem hjl)
     simpa using this
   show Value.int .i64 _ = Value.int .i64 (whichI _ _)
   simp only [whichI, hf]
  ·
   refine W_skip ?_
   show W _ _ _ _ _ _
   refine W_reg ?_
   refine s_pu (p_addI rfl rfl ?_) rfl ?_
   ·
    (first | assumption | omega)
   refine s_pu (p_move rfl) rfl ?_
   refine WL_th ?_
   refine ⟨x + 1, (Ext.cons rfl (Ext.cons rfl (Ext.cons rfl (Ext.cons (by show some (Value.int .i64 ((x : Int) + 1)) = _; simp) (Ext.nil _))))), ⟨by omega, ?_, hs⟩, by omega⟩
   intro j t2 hj ht2
   by_cases hjx : j = x
   ·
    subst hjx
    rw [hki] at ht2
    obtain rfl := Option.some.inj ht2
    intro e; injection e with e1 e2; exact of_decide_eq_false h18 ⟨e1, e2⟩
   ·
    exact hno j t2 (by omega) ht2
 ·
  refine W_exit ?_
  show W _ _ _ _ _ _
  refine W_sr ?_
  refine s_pu (p_assign rfl) rfl ?_
  refine WL_th ?_
  refine W_ret ?_
  refine ret_tmp (fn := Tryz.f13) rfl rfl ?_
  refine ⟨?_, hs.keep0⟩
  have hfull : x = ts.length := by have : ¬ (x < ts.length) := (by simpa using h11); omega
  have hf : ts.findIdx? (fun t => (t.T, t.b) = (qT, qb)) = none := by
   rw [List.findIdx?_eq_none_iff]
   intro t ht
   obtain ⟨j, hj⟩ := List.mem_iff_getElem?.1 ht
   have hjl := (List.getElem?_eq_some_iff.1 hj).1
   have := hno j t (by omega) hj
   simpa using this
  show Value.int .i64 _ = Value.int .i64 (whichI _ _)
  simp only [whichI, hf]
end Go.Proofs.YtmalghopogngoaaGreatDoor
