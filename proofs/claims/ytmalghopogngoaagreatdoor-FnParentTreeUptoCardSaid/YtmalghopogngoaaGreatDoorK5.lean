/- A part of the proof that the parent of a node below the root is the node right above it (laws.FnParentTree), for all inputs of bulk at most 1048576 and the listed variables as the text lays them: part 5 of 16. -/
import Derived.Test.YtmalghopogngoaaGreatDoorK4
import Derived.Laws.BytesArg
set_option linter.unusedVariables false
set_option linter.unusedSimpArgs false
set_option maxRecDepth 4000
namespace Go.Proofs.YtmalghopogngoaaGreatDoor
open Go Go.RowKit MW
/-- The remainder that is no less than 0. -/
def md (x n : Int) : Int := (x.tmod n + n).tmod n
theorem md_lt {x n : Int} (h1 : 0 < n) : md x n < n := Int.tmod_lt_of_pos (x.tmod n + n) h1
theorem md_ge {x n : Int} (h1 : 0 < n) : 0 ≤ md x n := Int.tmod_nonneg n (by have := Int.lt_tmod_of_pos x h1; omega)
theorem c_modulo (x n : Int) (h1 : 0 < n) (h2 : n ≤ 1000) (wI : World) : Quiet Tryz.prog 23 [.int .i64 x, .int .i64 n] wI fun v => v = .int .i64 (md x n) := by
 have hs := St.startNone wI
 have a1 := Int.tmod_lt_of_pos x h1
 have a2 := Int.lt_tmod_of_pos x h1
 have a3 := Int.tmod_lt_of_pos (x.tmod n + n) h1
 have a4 := Int.tmod_nonneg n (show 0 ≤ x.tmod n + n by omega)
 refine calls_W (args := [_, _]) Tryz.func23 rfl Tryz.ntmps23 rfl ?_
 refine W_sr ?_
 refine s_pu (p_assign rfl) rfl ?_
 refine WL_th ?_
 refine W_sr ?_
 refine s_pu (p_move rfl) rfl ?_
 refine s_pu (p_move rfl) rfl ?_
 refine s_pu (p_rem rfl rfl ?_) rfl ?_
 ·
  omega
 refine s_pu (p_move rfl) rfl ?_
 refine s_pu (p_addI rfl rfl ?_) rfl ?_
 ·
  (first | assumption | omega)
 refine s_pu (p_move rfl) rfl ?_
 refine s_pu (p_rem rfl rfl ?_) rfl ?_
 ·
  omega
 refine s_pu (p_assign rfl) rfl ?_
 refine WL_th ?_
 refine W_ret ?_
 refine ret_tmp (fn := Tryz.f23) rfl rfl ?_
 exact ⟨rfl, hs.keep0⟩
/-- The cells of a fitter. -/
def fC (left : Int) (a : Value) : Nat → Value := cl [.int .i64 63, .int .i64 left, a]
theorem c_has (fb : Nat) (left : Int) (a : Value) (sh : Int) (hsh : (bitsV .and .i64 63 sh != 0) = true) (wI : World) (hf : wI.heap[fb]? = some (.cells (mkA 3 (fC left a)) 56 (0, 0))) : Quiet Tryz.prog 24 [.pointer (some ⟨fb, 0, none⟩), .int .i64 sh] wI fun v => v = .bool true := by
 have hs := St.startNone wI
 refine calls_W (args := [_, _]) Tryz.func24 rfl Tryz.ntmps24 rfl ?_
 refine W_sr ?_
 refine s_pu (p_assign rfl) rfl ?_
 refine WL_th ?_
 refine W_sr ?_
 refine s_pu (p_move rfl) rfl ?_
 refine s_pu (p_nilCheck rfl) rfl ?_
 refine s_pu (p_field rfl) rfl ?_
 refine kq_ld (hs.old hf) rfl rfl rfl ?_
 refine s_pu (p_move rfl) rfl ?_
 refine s_pu (p_and rfl rfl) rfl ?_
 refine s_pu (p_neI rfl rfl) rfl ?_
 refine s_pu (p_assign rfl) rfl ?_
 refine WL_th ?_
 refine W_ret ?_
 refine ret_tmp (fn := Tryz.f24) rfl rfl ?_
 exact ⟨congrArg Value.bool hsh, hs.keep0⟩
theorem c_hollow (t : TRec) (wI : World) : Quiet Tryz.prog 29 [.agg (mkA 6 (tc t))] wI fun v => ∃ b, v = .bool b ∧ (b = true → t.kind = 1 ∧ t.style = 1) := by
 have hs := St.startNone wI
 refine calls_W (args := [_]) Tryz.func29 rfl Tryz.ntmps29 rfl ?_
 refine W_sr ?_
 refine k_box hs rfl rfl ?_
 intro b1 _ hs
 refine s_pu (p_assign rfl) rfl ?_
 refine WL_th ?_
 refine W_sr ?_
 refine s_pu (p_field rfl) rfl ?_
 refine k_ld hs rfl .head rfl rfl ?_
 refine s_pu (p_eqI rfl rfl) rfl ?_
 refine s_pu (p_move rfl) rfl ?_
 refine WL_cutb 4 10 [1] (fun b => b = true → t.kind = 1 ∧ t.style = 1) ?_ ?_
 ·
  refine s_bool 6 rfl (fun hb6 => ?_) (fun hb6 => ?_)
  ·
   refine g_take rfl rfl rfl ?_
   refine s_pu (p_field rfl) rfl ?_
   refine g_take rfl rfl rfl ?_
   refine k_ld hs rfl .head rfl rfl ?_
   refine g_take rfl rfl rfl ?_
   refine s_pu (p_eqI rfl rfl) rfl ?_
   refine s_pu (p_pickT rfl rfl) rfl ?_
   refine WL_th ⟨rfl, _, ?_, Ext.cons rfl (ext_kc rfl ext_kn)⟩
   exact fun h => ⟨eq_of_beq hb6, eq_of_beq h⟩
  ·
   refine g_skip rfl rfl rfl rfl rfl ?_
   refine g_skip rfl rfl rfl rfl rfl ?_
   refine g_skip rfl rfl rfl rfl rfl ?_
   refine s_pu (p_pickF rfl rfl) rfl ?_
   refine WL_th ⟨rfl, _, ?_, Ext.cons rfl (ext_kc rfl ext_kn)⟩
   exact fun h => by cases h
 ·
  intro b10 hb10
  refine WL_forget (Ext.cd 1 rfl (Ext.cd 10 rfl (Ext.nil _))) ?_
  show WL _ _ _ (_ :: _) _ _ _
  refine s_pu (p_move rfl) rfl ?_
  refine WL_cutb 4 15 [] (fun b => b = true → t.kind = 1 ∧ t.style = 1) ?_ ?_
  ·
   refine s_bool 11 rfl (fun hb11 => ?_) (fun hb11 => ?_)
   ·
    refine g_take rfl rfl rfl ?_
    refine s_pu (p_field rfl) rfl ?_
    refine g_take rfl rfl rfl ?_
    refine k_ld hs rfl .head rfl rfl ?_
    refine g_take rfl rfl rfl ?_
    refine s_pu (p_eqS rfl rfl) rfl ?_
    refine s_pu (p_pickT rfl rfl) rfl ?_
    refine WL_th ⟨rfl, _, ?_, Ext.cons rfl ext_kn⟩
    exact fun _ => hb10 hb11
   ·
    refine g_skip rfl rfl rfl rfl rfl ?_
    refine g_skip rfl rfl rfl rfl rfl ?_
    refine g_skip rfl rfl rfl rfl rfl ?_
    refine s_pu (p_pickF rfl rfl) rfl ?_
    refine WL_th ⟨rfl, _, ?_, Ext.cons rfl ext_kn⟩
    exact fun h => by cases h
  ·
   intro b15 hb15
   refine WL_forget (Ext.cd 15 rfl (Ext.nil _)) ?_
   show WL _ _ _ (_ :: _) _ _ _
   refine s_pu (p_assign rfl) rfl ?_
   refine WL_th ?_
   refine W_ret ?_
   refine ret_tmp (fn := Tryz.f29) rfl rfl ?_
   exact ⟨⟨_, rfl, hb15⟩, hs.keep0⟩
theorem c_void (t : TRec) (wI : World) : Quiet Tryz.prog 16 [.agg (mkA 6 (tc t))] wI fun v => ∃ b, v = .bool b ∧ (b = true → t.kind = 1 ∧ t.style = 1) := by
 have hs := St.startNone wI
 refine calls_W (args := [_]) Tryz.func16 rfl Tryz.ntmps16 rfl ?_
 refine W_sr ?_
 refine k_box hs rfl rfl ?_
 intro b1 _ hs
 refine s_pu (p_assign rfl) rfl ?_
 refine WL_th ?_
 refine W_sr ?_
 refine k_ldW hs rfl .head rfl ?_
 refine k_quiet (c_hollow _ _) hs (.cons rfl .nil) rfl ?_
 rintro _ _ ⟨hb, rfl, hhb⟩ hs _
 refine s_pu (p_move rfl) rfl ?_
 refine WL_cutb 4 9 [1] (fun b => b = true → t.kind = 1 ∧ t.style = 1) ?_ ?_
 ·
  refine s_bool 5 rfl (fun hb5 => ?_) (fun hb5 => ?_)
  ·
   refine g_take rfl rfl rfl ?_
   refine s_pu (p_field rfl) rfl ?_
   refine g_take rfl rfl rfl ?_
   refine k_ld hs rfl .head rfl rfl ?_
   refine g_take rfl rfl rfl ?_
   refine s_pu (p_eqS rfl rfl) rfl ?_
   refine s_pu (p_pickT rfl rfl) rfl ?_
   refine WL_th ⟨rfl, _, ?_, Ext.cons rfl (ext_kc rfl ext_kn)⟩
   exact fun _ => hhb hb5
  ·
   refine g_skip rfl rfl rfl rfl rfl ?_
   refine g_skip rfl rfl rfl rfl rfl ?_
   refine g_skip rfl rfl rfl rfl rfl ?_
   refine s_pu (p_pickF rfl rfl) rfl ?_
   refine WL_th ⟨rfl, _, ?_, Ext.cons rfl (ext_kc rfl ext_kn)⟩
   exact fun h => by cases h
 ·
  intro b9 hb9
  refine WL_forget (Ext.cd 1 rfl (Ext.cd 9 rfl (Ext.nil _))) ?_
  show WL _ _ _ (_ :: _) _ _ _
  refine s_pu (p_move rfl) rfl ?_
  refine WL_cutb 4 14 [] (fun b => b = true → t.kind = 1 ∧ t.style = 1) ?_ ?_
  ·
   refine s_bool 10 rfl (fun hb10 => ?_) (fun hb10 => ?_)
   ·
    refine g_take rfl rfl rfl ?_
    refine s_pu (p_field rfl) rfl ?_
    refine g_take rfl rfl rfl ?_
    refine k_ld hs rfl .head rfl rfl ?_
    refine g_take rfl rfl rfl ?_
    refine s_pu (p_eqS rfl rfl) rfl ?_
    refine s_pu (p_pickT rfl rfl) rfl ?_
    refine WL_th ⟨rfl, _, ?_, Ext.cons rfl ext_kn⟩
    exact fun _ => hb9 hb10
   ·
    refine g_skip rfl rfl rfl rfl rfl ?_
    refine g_skip rfl rfl rfl rfl rfl ?_
    refine g_skip rfl rfl rfl rfl rfl ?_
    refine s_pu (p_pickF rfl rfl) rfl ?_
    refine WL_th ⟨rfl, _, ?_, Ext.cons rfl ext_kn⟩
    exact fun h => by cases h
  ·
   intro b14 hb14
   refine WL_forget (Ext.cd 14 rfl (Ext.nil _)) ?_
   show WL _ _ _ (_ :: _) _ _ _
   refine s_pu (p_assign rfl) rfl ?_
   refine WL_th ?_
   refine W_ret ?_
   refine ret_tmp (fn := Tryz.f16) rfl rfl ?_
   exact ⟨⟨_, rfl, hb14⟩, hs.keep0⟩
theorem c_zzFits1 (t : TRec) (ad : Option Addr) (n cap : Nat) (hk : t.kids = .slice ad n cap) (wI : World) : Quiet Tryz.prog 4 [.agg (mkA 6 (tc t))] wI fun v => ∃ b, v = .bool b := by
 have hs := St.startNone wI
 obtain ⟨kind, value, anchor, tag, style, kv⟩ := t
 obtain rfl : kv = .slice ad n cap := hk
 refine calls_W (args := [_]) Tryz.func4 rfl Tryz.ntmps4 rfl ?_
 refine W_sr ?_
 refine k_box hs rfl rfl ?_
 intro b1 _ hs
 refine s_pu (p_assign rfl) rfl ?_
 refine WL_th ?_
 refine W_seq ?_
 refine W_sr ?_
 refine s_pu (p_field rfl) rfl ?_
 refine k_ld hs rfl .head rfl rfl ?_
 refine s_pu (p_lenS (by kernel_rfl) rfl) rfl ?_
 refine s_pu (p_gtI rfl rfl) rfl ?_
 refine WL_th ?_
 refine W_if rfl (fun ht6 => ?_) (fun ht6 => ?_)
 ·
  refine W_sr ?_
  refine s_pu (p_assign rfl) rfl ?_
  refine WL_th ?_
  refine W_ret ?_
  refine th_ret ?_
  refine ret_tmp (fn := Tryz.f4) rfl rfl ?_
  exact ⟨⟨_, rfl⟩, hs.keep0⟩
 ·
  refine W_skip_th ?_
  refine W_seq ?_
  refine W_sr ?_
  refine s_pu (p_field rfl) rfl ?_
  refine k_ld hs rfl .head rfl rfl ?_
  refine s_pu (p_lenS (by kernel_rfl) rfl) rfl ?_
  refine s_pu (p_gtI rfl rfl) rfl ?_
  refine WL_th ?_
  refine W_if rfl (fun ht10 => ?_) (fun ht10 => ?_)
  ·
   refine W_sr ?_
   refine s_pu (p_assign rfl) rfl ?_
   refine WL_th ?_
   refine W_ret ?_
   refine th_ret ?_
   refine ret_tmp (fn := Tryz.f4) rfl rfl ?_
   exact ⟨⟨_, rfl⟩, hs.keep0⟩
  ·
   refine W_skip_th ?_
   refine W_seq ?_
   refine W_sr ?_
   refine s_pu (p_field rfl) rfl ?_
   refine k_ld hs rfl .head rfl rfl ?_
   refine s_pu (p_lenS (by kernel_rfl) rfl) rfl ?_
   refine s_pu (p_gtI rfl rfl) rfl ?_
   refine WL_th ?_
   refine W_forget (Ext.cd 1 rfl (Ext.cd 14 rfl (Ext.nil _))) ?_
   refine W_if rfl (fun ht14 => ?_) (fun ht14 => ?_)
   ·
    refine W_sr ?_
    refine s_pu (p_assign rfl) rfl ?_
    refine WL_th ?_
    refine W_ret ?_
    refine th_ret ?_
    refine ret_tmp (fn := Tryz.f4) rfl rfl ?_
    exact ⟨⟨_, rfl⟩, hs.keep0⟩
   ·
    refine W_skip_th ?_
    refine W_seq ?_
    refine W_sr ?_
    refine s_pu (p_field rfl) rfl ?_
    refine k_ld hs rfl .head rfl rfl ?_
    refine s_pu (p_lenL rfl) rfl ?_
    refine s_pu (p_gtI rfl rfl) rfl ?_
    refine WL_th ?_
    refine W_if rfl (fun ht18 => ?_) (fun ht18 => ?_)
    ·
     refine W_sr ?_
     refine s_pu (p_assign rfl) rfl ?_
     refine WL_th ?_
     refine W_ret ?_
     refine th_ret ?_
     refine ret_tmp (fn := Tryz.f4) rfl rfl ?_
     exact ⟨⟨_, rfl⟩, hs.keep0⟩
    ·
     refine W_skip_th ?_
     refine W_sr ?_
     refine s_pu (p_assign rfl) rfl ?_
     refine WL_th ?_
     refine W_ret ?_
     refine ret_tmp (fn := Tryz.f4) rfl rfl ?_
     exact ⟨⟨_, rfl⟩, hs.keep0⟩
end Go.Proofs.YtmalghopogngoaaGreatDoor
set_option linter.unusedVariables false
set_option linter.unusedSimpArgs false
set_option maxRecDepth 4000
namespace Go.Proofs.YtmalghopogngoaaGreatDoor
open Go Go.RowKit MW
theorem c_keyed (t : TRec) (ks : List TT) (key : ByteArray) (wI : World) (hlen : ks.length ≤ 1000) (hK : TreesAt wI t.kids ks) : Quiet Tryz.prog 81 [.agg (mkA 6 (tc t)), .string key] wI fun v => ∃ b, v = .bool b ∧ (b = true → ∃ (i : Nat) (k : TT), ks[2 * i]? = some k ∧ k.t.kind = 1 ∧ k.t.value.toList = key.toList) := by
 have hs := St.startNone wI
 obtain ⟨kind, value, anchor, tag, style, kv⟩ := t
 obtain ⟨ad, cap, b0, o0, hv, hall⟩ := hK.out
 obtain rfl : kv = .slice ad ks.length cap := hv
 refine calls_W (args := [_, _]) Tryz.func81 rfl Tryz.ntmps81 rfl ?_
 refine W_sr ?_
 refine k_box hs rfl rfl ?_
 intro b2 _ hs
 refine s_pu (p_assign rfl) rfl ?_
 refine WL_th ?_
 refine W_seq ?_
 refine W_sr ?_
 refine s_pu (p_assign rfl) rfl ?_
 refine WL_th ?_
 refine W_block ?_
 refine W_loop (α := Nat) (fun x => (upd (upd (upd emp 5 (.int .i64 ((2 * x : Nat) : Int))) 2 (.pointer (some ⟨b2, 0, none⟩))) 1 (.string key))) (fun x w => 2 * x ≤ ks.length + 1 ∧ St wI (fun _ => False) w [pt b2 24 6 (tc ⟨kind, value, anchor, tag, style, .slice ad ks.length cap⟩)]) (fun x => ks.length + 1 - x) 0 (Ext.cons rfl (Ext.cons rfl (Ext.cons rfl (Ext.nil _)))) ⟨by omega, hs⟩ (fun x w hx => ?_)
 obtain ⟨hle, hs⟩ := hx
 refine W_seq ?_
 refine W_sr ?_
 refine s_pu (p_move rfl) rfl ?_
 refine s_pu (p_field rfl) rfl ?_
 refine k_ld hs rfl .head rfl rfl ?_
 refine s_pu (p_lenL rfl) rfl ?_
 refine s_pu (p_ltI rfl rfl) rfl ?_
 refine WL_th ?_
 refine W_if rfl (fun h10 => ?_) (fun h10 => ?_)
 ·
  have hlt : 2 * x < ks.length := by have := of_decide_eq_true h10; omega
  obtain ⟨k, hki⟩ : ∃ k, ks[2 * x]? = some k := ⟨_, List.getElem?_eq_getElem hlt⟩
  obtain ⟨hb0, hcell⟩ := hall _ (hK.keep hs.keep.sames) _ _ hki
  refine W_skip_th ?_
  refine W_seq ?_
  refine W_block ?_
  refine W_sr ?_
  refine s_pu (p_field rfl) rfl ?_
  refine k_ld hs rfl .head rfl rfl ?_
  refine s_pu (p_move rfl) rfl ?_
  refine s_pu (p_elem (by show some (Value.slice ad ks.length cap) = _; rw [hb0]) rfl (by omega) (by omega)) rfl ?_
  refine s_pu (p_field rfl) rfl ?_
  refine kc_ldv (hcell 0 (by omega)) rfl rfl rfl ?_
  refine s_pu (p_eqI rfl rfl) rfl ?_
  refine s_pu (p_move rfl) rfl ?_
  refine WL_cutb 9 29 [1, 2, 5] (fun b => b = true → k.t.kind = 1 ∧ k.t.value.toList = key.toList) ?_ ?_
  ·
   refine s_bool 20 rfl (fun hb20 => ?_) (fun hb20 => ?_)
   ·
    refine g_take rfl rfl rfl ?_
    refine s_pu (p_field rfl) rfl ?_
    refine g_take rfl rfl rfl ?_
    refine k_ld hs rfl .head rfl rfl ?_
    refine g_take rfl rfl rfl ?_
    refine s_pu (p_move rfl) rfl ?_
    refine g_take rfl rfl rfl ?_
    refine s_pu (p_elem (by show some (Value.slice ad ks.length cap) = _; rw [hb0]) rfl (by omega) (by omega)) rfl ?_
    refine g_take rfl rfl rfl ?_
    refine s_pu (p_field rfl) rfl ?_
    refine g_take rfl rfl rfl ?_
    refine kc_ldv (hcell 1 (by omega)) rfl rfl rfl ?_
    refine g_take rfl rfl rfl ?_
    refine s_pu (p_move rfl) rfl ?_
    refine g_take rfl rfl rfl ?_
    refine s_pu (p_eqS rfl rfl) rfl ?_
    refine s_pu (p_pickT rfl rfl) rfl ?_
    refine WL_th ⟨rfl, _, ?_, Ext.cons rfl (ext_kd rfl rfl (ext_kd rfl rfl (ext_kd rfl rfl ext_kn)))⟩
    exact fun h => ⟨eq_of_beq hb20, eq_of_beq h⟩
   ·
    refine g_skip rfl rfl rfl rfl rfl ?_
    refine g_skip rfl rfl rfl rfl rfl ?_
    refine g_skip rfl rfl rfl rfl rfl ?_
    refine g_skip rfl rfl rfl rfl rfl ?_
    refine g_skip rfl rfl rfl rfl rfl ?_
    refine g_skip rfl rfl rfl rfl rfl ?_
    refine g_skip rfl rfl rfl rfl rfl ?_
    refine g_skip rfl rfl rfl rfl rfl ?_
    refine s_pu (p_pickF rfl rfl) rfl ?_
    refine WL_th ⟨rfl, _, ?_, Ext.cons rfl (ext_kd rfl rfl (ext_kd rfl rfl (ext_kd rfl rfl ext_kn)))⟩
    exact fun h => by cases h
  ·
   intro b29 hb29
   refine WL_forget (Ext.cd 1 rfl (Ext.cd 2 rfl (Ext.cd 5 rfl (Ext.cd 29 rfl (Ext.nil _))))) ?_
   show WL _ _ _ [] _ _ _
   refine WL_th ?_
   refine W_if rfl (fun h29 => ?_) (fun h29 => ?_)
   ·
    refine W_sr ?_
    refine s_pu (p_assign rfl) rfl ?_
    refine WL_th ?_
    refine W_ret ?_
    refine bl_ret ?_
    refine th_ret ?_
    refine th_ret ?_
    refine bl_ret ?_
    refine th_ret ?_
    refine ret_tmp (fn := Tryz.f81) rfl rfl ?_
    exact ⟨⟨true, rfl, fun _ => ⟨x, k, hki, hb29 h29⟩⟩, hs.keep0⟩
   ·
    refine W_skip ?_
    show W _ _ _ _ _ _
    refine W_reg ?_
    refine s_pu (p_move rfl) rfl ?_
    refine s_pu (p_addI rfl rfl ?_) rfl ?_
    ·
     omega
    refine s_pu (p_assign rfl) rfl ?_
    refine WL_th ?_
    refine ⟨x + 1, (Ext.cons rfl (Ext.cons rfl (Ext.cons (by show some (Value.int .i64 (((2 * x : Nat) : Int) + 2)) = _; simp; omega) (Ext.nil _)))), ⟨by omega, hs⟩, by omega⟩
 ·
  refine W_exit ?_
  show W _ _ _ _ _ _
  refine W_sr ?_
  refine s_pu (p_assign rfl) rfl ?_
  refine WL_th ?_
  refine W_ret ?_
  refine ret_tmp (fn := Tryz.f81) rfl rfl ?_
  exact ⟨⟨false, rfl, fun h => by cases h⟩, hs.keep0⟩
end Go.Proofs.YtmalghopogngoaaGreatDoor
set_option linter.unusedVariables false
set_option linter.unusedSimpArgs false
set_option maxRecDepth 4000
namespace Go.Proofs.YtmalghopogngoaaGreatDoor
open Go Go.RowKit MW
section
variable {P : Program} {N : Nat} {Q : Exit → Env → World → Prop} {e : Env} {w w0 : World} {ops : Array Oper} {rest : List Oper} {F : Foot} {G G' : List Assn} {d : Nat} {ty : TypeId} {pos : String} {af : Array Edge}
/-- Bytes as a text. -/
theorem k_convBS {src el dst : TypeId} (h1 : P.underlying src = some (.slice el)) (h2 : P.underlying el = some (.int .u8)) (h3 : P.underlying dst = some .string) {x : Operand} {v : Value} {T : Nat} {xs : List Int} (hs : St w0 F w G) (hp : Pick G (rowL v T (xs.map (Value.int .u8))) G') (hx : evo e x = some v) (hN : Nat.blt d N = true)
  (h : ∀ s : ByteArray, (xs = [] → s = ⟨#[]⟩) → WL P ops N rest Q (upd e d (.string s)) w) : WL P ops N (⟨some d, .convert src dst x, ty, pos, af, none⟩ :: rest) Q e w := by
 obtain ⟨S, hrow⟩ := hs.pick hp
 have key : ∃ s : ByteArray, (xs = [] → s = ⟨#[]⟩) ∧ (convert src dst v).run P w = .ok (.string s) w := by
  rcases hrow with ⟨rfl, _, _⟩ | ⟨g, cap, cur, rfl, h4, h5, h6, h7, h8, h9⟩
  ·
   exact ⟨⟨#[]⟩, fun _ => rfl, run_convert_bytes_nil (P := P) w src el h1 h2 0 0 dst h3⟩
  ·
   rw [List.length_map] at *
   refine ⟨strOfNums xs, fun h => by subst h; rfl, run_convert_bytes_arg (P := P) w src el h1 h2 g 0 xs.length cap xs rfl (fun i hi => ?_) dst h3⟩
   rw [Nat.zero_add]
   have := h9 i (by omega)
   simp [hi] at this
   simp [World.cell?, h5, this, List.getD, hi]
 obtain ⟨s, hs1, hr⟩ := key
 refine s_at (fun a ha d ty pos af g => ?_) hN (h s hs1)
 simp only [execOp, ha.eval hx]
 simp [hr]
end
theorem c_wrLetter (n : Int) (wI : World) : Quiet Tryz.prog 73 [.int .u8 n] wI fun v => ∃ b, v = .bool b := by
 have hs := St.startNone wI
 refine calls_W (args := [_]) Tryz.func73 rfl Tryz.ntmps73 rfl ?_
 refine W_sr ?_
 refine s_pu (p_assign rfl) rfl ?_
 refine WL_th ?_
 refine W_sr ?_
 refine s_pu (p_move rfl) rfl ?_
 refine s_pu (p_geI rfl rfl) rfl ?_
 refine s_pu (p_move rfl) rfl ?_
 refine WL_cutb 3 8 [0] (fun b => True) ?_ ?_
 ·
  refine s_bool 5 rfl (fun hb5 => ?_) (fun hb5 => ?_)
  ·
   refine g_take rfl rfl rfl ?_
   refine s_pu (p_move rfl) rfl ?_
   refine g_take rfl rfl rfl ?_
   refine s_pu (p_leI rfl rfl) rfl ?_
   refine s_pu (p_pickT rfl rfl) rfl ?_
   refine WL_th ⟨rfl, _, ?_, Ext.cons rfl (ext_kc rfl ext_kn)⟩
   trivial
  ·
   refine g_skip rfl rfl rfl rfl rfl ?_
   refine g_skip rfl rfl rfl rfl rfl ?_
   refine s_pu (p_pickF rfl rfl) rfl ?_
   refine WL_th ⟨rfl, _, ?_, Ext.cons rfl (ext_kc rfl ext_kn)⟩
   trivial
 ·
  intro b8 hb8
  refine WL_forget (Ext.cd 0 rfl (Ext.cd 8 rfl (Ext.nil _))) ?_
  show WL _ _ _ (_ :: _) _ _ _
  refine s_pu (p_move rfl) rfl ?_
  refine WL_cutb 7 16 [] (fun b => True) ?_ ?_
  ·
   refine s_bool 9 rfl (fun hb9 => ?_) (fun hb9 => ?_)
   ·
    refine g_skip rfl rfl rfl rfl rfl ?_
    refine g_skip rfl rfl rfl rfl rfl ?_
    refine g_skip rfl rfl rfl rfl rfl ?_
    refine g_skipU rfl rfl rfl rfl ?_
    refine g_skipU rfl rfl rfl rfl ?_
    refine g_skip rfl rfl rfl rfl rfl ?_
    refine s_pu (p_pickT rfl rfl) rfl ?_
    refine WL_th ⟨rfl, _, ?_, Ext.cons rfl ext_kn⟩
    trivial
   ·
    refine g_take rfl rfl rfl ?_
    refine s_pu (p_move rfl) rfl ?_
    refine g_take rfl rfl rfl ?_
    refine s_pu (p_geI rfl rfl) rfl ?_
    refine g_take rfl rfl rfl ?_
    refine s_pu (p_move rfl) rfl ?_
    refine s_bool 12 rfl (fun hb12 => ?_) (fun hb12 => ?_)
    ·
     refine g_take rfl rfl rfl ?_
     refine s_pu (p_move rfl) rfl ?_
     refine g_take rfl rfl rfl ?_
     refine s_pu (p_leI rfl rfl) rfl ?_
     refine g_take rfl rfl rfl ?_
     refine s_pu (p_pickT rfl rfl) rfl ?_
     refine s_pu (p_pickF rfl rfl) rfl ?_
     refine WL_th ⟨rfl, _, ?_, Ext.cons rfl ext_kn⟩
     trivial
    ·
     refine g_skip rfl rfl rfl rfl rfl ?_
     refine g_skip rfl rfl rfl rfl rfl ?_
     refine g_take rfl rfl rfl ?_
     refine s_pu (p_pickF rfl rfl) rfl ?_
     refine s_pu (p_pickF rfl rfl) rfl ?_
     refine WL_th ⟨rfl, _, ?_, Ext.cons rfl ext_kn⟩
     trivial
  ·
   intro b16 hb16
   refine WL_forget (Ext.cd 16 rfl (Ext.nil _)) ?_
   show WL _ _ _ (_ :: _) _ _ _
   refine s_pu (p_assign rfl) rfl ?_
   refine WL_th ?_
   refine W_ret ?_
   refine ret_tmp (fn := Tryz.f73) rfl rfl ?_
   exact ⟨⟨_, rfl⟩, hs.keep0⟩
theorem c_wrDigit (n : Int) (wI : World) : Quiet Tryz.prog 74 [.int .u8 n] wI fun v => ∃ b, v = .bool b := by
 have hs := St.startNone wI
 refine calls_W (args := [_]) Tryz.func74 rfl Tryz.ntmps74 rfl ?_
 refine W_sr ?_
 refine s_pu (p_assign rfl) rfl ?_
 refine WL_th ?_
 refine W_sr ?_
 refine s_pu (p_move rfl) rfl ?_
 refine s_pu (p_geI rfl rfl) rfl ?_
 refine s_pu (p_move rfl) rfl ?_
 refine WL_cutb 3 8 [] (fun b => True) ?_ ?_
 ·
  refine s_bool 5 rfl (fun hb5 => ?_) (fun hb5 => ?_)
  ·
   refine g_take rfl rfl rfl ?_
   refine s_pu (p_move rfl) rfl ?_
   refine g_take rfl rfl rfl ?_
   refine s_pu (p_leI rfl rfl) rfl ?_
   refine s_pu (p_pickT rfl rfl) rfl ?_
   refine WL_th ⟨rfl, _, ?_, Ext.cons rfl ext_kn⟩
   trivial
  ·
   refine g_skip rfl rfl rfl rfl rfl ?_
   refine g_skip rfl rfl rfl rfl rfl ?_
   refine s_pu (p_pickF rfl rfl) rfl ?_
   refine WL_th ⟨rfl, _, ?_, Ext.cons rfl ext_kn⟩
   trivial
 ·
  intro b8 hb8
  refine WL_forget (Ext.cd 8 rfl (Ext.nil _)) ?_
  show WL _ _ _ (_ :: _) _ _ _
  refine s_pu (p_assign rfl) rfl ?_
  refine WL_th ?_
  refine W_ret ?_
  refine ret_tmp (fn := Tryz.f74) rfl rfl ?_
  exact ⟨⟨_, rfl⟩, hs.keep0⟩
theorem c_wrAlnum (n : Int) (wI : World) : Quiet Tryz.prog 58 [.int .u8 n] wI fun v => ∃ b, v = .bool b := by
 have hs := St.startNone wI
 refine calls_W (args := [_]) Tryz.func58 rfl Tryz.ntmps58 rfl ?_
 refine W_sr ?_
 refine s_pu (p_assign rfl) rfl ?_
 refine WL_th ?_
 refine W_sr ?_
 refine s_pu (p_move rfl) rfl ?_
 refine k_quiet (c_wrLetter _ _) hs (.cons rfl .nil) rfl ?_
 rintro _ _ ⟨cb, rfl⟩ hs _
 refine s_pu (p_move rfl) rfl ?_
 refine WL_cutw 3 8 [] (fun b => True) (fun w => St wI (fun _ => False) w []) ?_ ?_
 ·
  refine s_bool 5 rfl (fun hb5 => ?_) (fun hb5 => ?_)
  ·
   refine g_skip rfl rfl rfl rfl rfl ?_
   refine g_skip rfl rfl rfl rfl rfl ?_
   refine s_pu (p_pickT rfl rfl) rfl ?_
   refine WL_th ⟨hs, _, ?_, Ext.cons rfl ext_kn⟩
   trivial
  ·
   refine g_take rfl rfl rfl ?_
   refine s_pu (p_move rfl) rfl ?_
   refine g_take rfl rfl rfl ?_
   refine k_quiet (c_wrDigit _ _) hs (.cons rfl .nil) rfl ?_
   rintro _ _ ⟨cb7, rfl⟩ hs _
   refine s_pu (p_pickF rfl rfl) rfl ?_
   refine WL_th ⟨hs, _, ?_, Ext.cons rfl ext_kn⟩
   trivial
 ·
  intro w8 b8 hs hb8
  refine WL_forget (Ext.cd 8 rfl (Ext.nil _)) ?_
  show WL _ _ _ (_ :: _) _ _ _
  refine s_pu (p_assign rfl) rfl ?_
  refine WL_th ?_
  refine W_ret ?_
  refine ret_tmp (fn := Tryz.f58) rfl rfl ?_
  exact ⟨⟨_, rfl⟩, hs.keep0⟩
theorem c_wrName (s : ByteArray) (hsz : s.size ≤ 100000000) (wI : World) : Quiet Tryz.prog 25 [.string s] wI fun v => ∃ u, v = .string u ∧ (s.size = 0 → u = ⟨#[]⟩) := by
 have hs := St.startNone wI
 refine calls_W (args := [_]) Tryz.func25 rfl Tryz.ntmps25 rfl ?_
 refine W_sr ?_
 refine s_pu (p_assign rfl) rfl ?_
 refine WL_th ?_
 refine W_sr ?_
 refine s_pu (p_assign rfl) rfl ?_
 refine WL_th ?_
 refine W_seq ?_
 refine W_sr ?_
 refine s_pu (p_assign rfl) rfl ?_
 refine WL_th ?_
 refine W_block ?_
 have hs := hs.rowNil 5 1 (fun i => ([] : List Value)[i]?.getD undef)
 refine W_loop (α := Nat × Value × List Int) (fun x => (upd (upd (upd emp 4 (.int .i64 x.1)) 3 x.2.1) 0 (.string s))) (fun x w => x.1 ≤ s.size ∧ x.2.2.length ≤ x.1 ∧ St wI (fun _ => False) w [rowL x.2.1 5 (x.2.2.map (Value.int .u8))]) (fun x => s.size - x.1) (0, .slice none 0 0, []) (Ext.cons rfl (Ext.cons rfl (Ext.cons rfl (Ext.nil _)))) ⟨Nat.zero_le _, Nat.zero_le _, hs⟩ (fun x w hx => ?_)
 obtain ⟨hle, hxl, hs⟩ := hx
 obtain ⟨S1, hrow⟩ := hs.pick .head
 obtain ⟨ad, cap, hv, _⟩ := rowL_cell hrow
 refine W_seq ?_
 refine W_sr ?_
 refine s_pu (p_move rfl) rfl ?_
 refine s_pu (p_move rfl) rfl ?_
 refine s_pu (p_lenS (by kernel_rfl) rfl) rfl ?_
 refine s_pu (p_ltI rfl rfl) rfl ?_
 refine s_pu (p_move rfl) rfl ?_
 refine WL_cutb 4 13 [0, 3, 4] (fun b => b = true → x.1 < s.size) ?_ ?_
 ·
  refine s_bool 9 rfl (fun hb9 => ?_) (fun hb9 => ?_)
  ·
   have hlt : x.1 < s.size := by have := of_decide_eq_true hb9; omega
   refine g_take rfl rfl rfl ?_
   refine s_pu (p_move rfl) rfl ?_
   refine g_take rfl rfl rfl ?_
   refine s_pu (p_lenL (ad := ad) (l := x.2.2.length) (c := cap) (by show some x.2.1 = _; rw [hv, List.length_map])) rfl ?_
   refine g_take rfl rfl rfl ?_
   refine s_pu (p_ltI rfl rfl) rfl ?_
   refine s_pu (p_pickT rfl rfl) rfl ?_
   refine WL_th ⟨rfl, _, ?_, Ext.cons rfl (ext_kc rfl (ext_kc rfl (ext_kc rfl ext_kn)))⟩
   exact fun _ => hlt
  ·
   refine g_skip rfl rfl rfl rfl rfl ?_
   refine g_skip rfl rfl rfl rfl rfl ?_
   refine g_skip rfl rfl rfl rfl rfl ?_
   refine s_pu (p_pickF rfl rfl) rfl ?_
   refine WL_th ⟨rfl, _, ?_, Ext.cons rfl (ext_kc rfl (ext_kc rfl (ext_kc rfl ext_kn)))⟩
   exact fun h => by cases h
 ·
  intro b13 hb13
  refine WL_forget (Ext.cd 0 rfl (Ext.cd 3 rfl (Ext.cd 4 rfl (Ext.cd 13 rfl (Ext.nil _))))) ?_
  show WL _ _ _ [] _ _ _
  refine WL_th ?_
  refine W_if rfl (fun h13 => ?_) (fun h13 => ?_)
  ·
   have hlt := hb13 h13
   refine W_skip_th ?_
   refine W_join (fun e' w' => ∃ (v1 : Value) (ys : List Int), ys.length ≤ x.1 + 1 ∧ Ext e' (upd (upd (upd emp 4 (.int .i64 x.1)) 3 v1) 0 (.string s)) ∧ St wI (fun _ => False) w' [rowL v1 5 (ys.map (Value.int .u8))]) ?_ ?_
   ·
    refine W_block ?_
    refine W_sr ?_
    refine s_pu (p_move rfl) rfl ?_
    refine s_pu (p_move rfl) rfl ?_
    refine s_pu (p_indexS (by kernel_rfl) rfl rfl ?_ ?_) rfl ?_
    ·
     omega
    ·
     (simp; omega)
    refine k_quiet (c_wrAlnum _ _) hs (.cons rfl .nil) rfl ?_
    rintro _ _ ⟨cb, rfl⟩ hs _
    refine s_pu (p_move rfl) rfl ?_
    refine WL_cutb 5 25 [0, 3, 4] (fun b => True) ?_ ?_
    ·
     refine s_bool 20 rfl (fun hb20 => ?_) (fun hb20 => ?_)
     ·
      refine g_skip rfl rfl rfl rfl rfl ?_
      refine g_skip rfl rfl rfl rfl rfl ?_
      refine g_skip rfl rfl rfl rfl rfl ?_
      refine g_skip rfl rfl rfl rfl rfl ?_
      refine s_pu (p_pickT rfl rfl) rfl ?_
      refine WL_th ⟨rfl, _, ?_, Ext.cons rfl (ext_kc rfl (ext_kc rfl (ext_kc rfl ext_kn)))⟩
      trivial
     ·
      refine g_take rfl rfl rfl ?_
      refine s_pu (p_move rfl) rfl ?_
      refine g_take rfl rfl rfl ?_
      refine s_pu (p_move rfl) rfl ?_
      refine g_take rfl rfl rfl ?_
      refine s_pu (p_indexS (by kernel_rfl) rfl rfl ?_ ?_) rfl ?_
      ·
       omega
      ·
       (simp; omega)
      refine g_take rfl rfl rfl ?_
      refine s_pu (p_eqI rfl rfl) rfl ?_
      refine s_pu (p_pickF rfl rfl) rfl ?_
      refine WL_th ⟨rfl, _, ?_, Ext.cons rfl (ext_kc rfl (ext_kc rfl (ext_kc rfl ext_kn)))⟩
      trivial
    ·
     intro b25 hb25
     refine WL_forget (Ext.cd 0 rfl (Ext.cd 3 rfl (Ext.cd 4 rfl (Ext.cd 25 rfl (Ext.nil _))))) ?_
     show WL _ _ _ (_ :: _) _ _ _
     refine s_pu (p_move rfl) rfl ?_
     refine WL_cutb 10 36 [0, 3, 4] (fun b => True) ?_ ?_
     ·
      refine s_bool 26 rfl (fun hb26 => ?_) (fun hb26 => ?_)
      ·
       refine g_skip rfl rfl rfl rfl rfl ?_
       refine g_skip rfl rfl rfl rfl rfl ?_
       refine g_skip rfl rfl rfl rfl rfl ?_
       refine g_skip rfl rfl rfl rfl rfl ?_
       refine g_skip rfl rfl rfl rfl rfl ?_
       refine g_skipU rfl rfl rfl rfl ?_
       refine g_skipU rfl rfl rfl rfl ?_
       refine g_skipU rfl rfl rfl rfl ?_
       refine g_skip rfl rfl rfl rfl rfl ?_
       refine s_pu (p_pickT rfl rfl) rfl ?_
       refine WL_th ⟨rfl, _, ?_, Ext.cons rfl (ext_kc rfl (ext_kc rfl (ext_kc rfl ext_kn)))⟩
       trivial
      ·
       refine g_take rfl rfl rfl ?_
       refine s_pu (p_move rfl) rfl ?_
       refine g_take rfl rfl rfl ?_
       refine s_pu (p_move rfl) rfl ?_
       refine g_take rfl rfl rfl ?_
       refine s_pu (p_indexS (by kernel_rfl) rfl rfl ?_ ?_) rfl ?_
       ·
        omega
       ·
        (simp; omega)
       refine g_take rfl rfl rfl ?_
       refine s_pu (p_eqI rfl rfl) rfl ?_
       refine g_take rfl rfl rfl ?_
       refine s_pu (p_move rfl) rfl ?_
       refine s_bool 31 rfl (fun hb31 => ?_) (fun hb31 => ?_)
       ·
        refine g_take rfl rfl rfl ?_
        refine s_pu (p_move rfl) rfl ?_
        refine g_take rfl rfl rfl ?_
        refine s_pu (p_lenL (ad := ad) (l := x.2.2.length) (c := cap) (by show some x.2.1 = _; rw [hv, List.length_map])) rfl ?_
        refine g_take rfl rfl rfl ?_
        refine s_pu (p_gtI rfl rfl) rfl ?_
        refine g_take rfl rfl rfl ?_
        refine s_pu (p_pickT rfl rfl) rfl ?_
        refine s_pu (p_pickF rfl rfl) rfl ?_
        refine WL_th ⟨rfl, _, ?_, Ext.cons rfl (ext_kc rfl (ext_kc rfl (ext_kc rfl ext_kn)))⟩
        trivial
       ·
        refine g_skip rfl rfl rfl rfl rfl ?_
        refine g_skip rfl rfl rfl rfl rfl ?_
        refine g_skip rfl rfl rfl rfl rfl ?_
        refine g_take rfl rfl rfl ?_
        refine s_pu (p_pickF rfl rfl) rfl ?_
        refine s_pu (p_pickF rfl rfl) rfl ?_
        refine WL_th ⟨rfl, _, ?_, Ext.cons rfl (ext_kc rfl (ext_kc rfl (ext_kc rfl ext_kn)))⟩
        trivial
     ·
      intro b36 hb36
      refine WL_forget (Ext.cd 0 rfl (Ext.cd 3 rfl (Ext.cd 4 rfl (Ext.cd 36 rfl (Ext.nil _))))) ?_
      show WL _ _ _ [] _ _ _
      refine WL_th ?_
      refine W_if rfl (fun h36 => ?_) (fun h36 => ?_)
      ·
       refine W_reg ?_
       refine s_pu (p_move rfl) rfl ?_
       refine s_pu (p_move rfl) rfl ?_
       refine s_pu (p_move rfl) rfl ?_
       refine s_pu (p_indexS (by kernel_rfl) rfl rfl ?_ ?_) rfl ?_
       ·
        omega
       ·
        (simp; omega)
       refine k_bs hs (.one rfl rfl rfl .nil) rfl rfl rfl ?_
       intro b41 _ hs
       have hs := hs.front .t1
       have hs := hs.imp .head rowL_row
       refine k_app hs rfl rfl .head rfl (by intro i hi; have h0 : i = 0 := (by omega); subst h0; rfl) (by simp; omega) (by simp; omega) rfl ?_
       intro v42 _ hs
       have hs := hs.imp .head rowL_snoc
       refine s_pu (p_assign rfl) rfl ?_
       refine WL_nil ?_
       show ∃ _, _
       have hs := hs.front .head
       have hs := St.cut (G1 := [_]) hs
       exact ⟨v42, x.2.2 ++ [_], by simp; omega, (Ext.cons rfl (Ext.cons rfl (Ext.cons rfl (Ext.nil _)))), by rw [List.map_append]; exact hs⟩
      ·
       refine W_skip ?_
       show ∃ _, _
       exact ⟨x.2.1, x.2.2, by omega, (Ext.cons rfl (Ext.cons rfl (Ext.cons rfl (Ext.nil _)))), hs⟩
   ·
    rintro e1 w1 ⟨v1, ys, hyl, hx, hs⟩
    refine W_forget hx ?_
    clear hx
    refine W_reg ?_
    refine s_pu (p_move rfl) rfl ?_
    refine s_pu (p_addI rfl rfl ?_) rfl ?_
    ·
     (first | assumption | omega)
    refine s_pu (p_assign rfl) rfl ?_
    refine WL_th ?_
    refine ⟨(x.1 + 1, v1, ys), (Ext.cons rfl (Ext.cons rfl (Ext.cons (by show some (Value.int .i64 ((x.1 : Int) + 1)) = _; simp) (Ext.nil _)))), ⟨by omega, hyl, hs⟩, by simp; omega⟩
  ·
   refine W_exit ?_
   show W _ _ _ _ _ _
   refine W_sr ?_
   refine s_pu (p_move rfl) rfl ?_
   refine k_convBS (el := 5) (by kernel_rfl) (by kernel_rfl) (by kernel_rfl) hs .head rfl rfl ?_
   intro u hu
   refine s_pu (p_assign rfl) rfl ?_
   refine WL_th ?_
   refine W_ret ?_
   refine ret_tmp (fn := Tryz.f25) rfl rfl ?_
   exact ⟨⟨u, rfl, fun h0 => hu (List.eq_nil_of_length_eq_zero (by omega))⟩, hs.keep0⟩
end Go.Proofs.YtmalghopogngoaaGreatDoor
set_option linter.unusedVariables false
set_option linter.unusedSimpArgs false
set_option maxRecDepth 4000
namespace Go.Proofs.YtmalghopogngoaaGreatDoor
open Go Go.RowKit MW
theorem size_pos {s : ByteArray} (h : ¬ s.toList = (⟨#[]⟩ : ByteArray).toList) : 0 < s.size := by
 rcases Nat.eq_zero_or_pos s.size with h0 | h0
 ·
  exfalso
  apply h
  congr 1
  obtain ⟨d⟩ := s
  have : d = #[] := Array.eq_empty_of_size_eq_zero h0
  rw [this]
 ·
  exact h0
theorem rowL_u8 {v : Value} {T : Nat} {xs : List Int} {n : Int} (w : World) (S : Foot) (h : (rowL v T (xs.map (Value.int .u8) ++ [.int .u8 n])).on w S) : (rowL v T ((xs ++ [n]).map (Value.int .u8))).on w S := by
 rw [List.map_append]
 exact h
theorem c_tag (fb : Nat) (left : Int) (a : Value) (s : ByteArray) (k : Int) (hsz : s.size ≤ 100000000) (wI : World) (hf : wI.heap[fb]? = some (.cells (mkA 3 (fC left a)) 56 (0, 0))) : Quiet Tryz.prog 26 [.pointer (some ⟨fb, 0, none⟩), .string s, .int .i64 k] wI fun v => ∃ u, v = .string u ∧ (s.toList = (⟨#[]⟩ : ByteArray).toList → u = ⟨#[]⟩) := by
 have hs := St.startNone wI
 refine calls_W (args := [_, _, _]) Tryz.func26 rfl Tryz.ntmps26 rfl ?_
 refine W_sr ?_
 refine s_pu (p_assign rfl) rfl ?_
 refine WL_th ?_
 refine W_seq ?_
 refine W_sr ?_
 refine s_pu (p_move rfl) rfl ?_
 refine s_pu (p_eqS rfl rfl) rfl ?_
 refine s_pu (p_move rfl) rfl ?_
 refine WL_cutw 4 15 [1, 2] (fun b => (b = true → s.toList = (⟨#[]⟩ : ByteArray).toList) ∧ (b = false → ¬ s.toList = (⟨#[]⟩ : ByteArray).toList)) (fun w => St wI (fun _ => False) w []) ?_ ?_
 ·
  refine s_bool 11 rfl (fun hb11 => ?_) (fun hb11 => ?_)
  ·
   refine g_skip rfl rfl rfl rfl rfl ?_
   refine g_skip rfl rfl rfl rfl rfl ?_
   refine g_skip rfl rfl rfl rfl rfl ?_
   refine s_pu (p_pickT rfl rfl) rfl ?_
   refine WL_th ⟨hs, _, ?_, Ext.cons rfl (ext_kc rfl (ext_kc rfl ext_kn))⟩
   exact ⟨fun _ => eq_of_beq hb11, fun h => (by cases h)⟩
  ·
   refine g_take rfl rfl rfl ?_
   refine s_pu (p_move rfl) rfl ?_
   refine g_take rfl rfl rfl ?_
   refine k_quiet (c_has fb left a 16 (by decide) _ (hs.old hf)) hs (.cons rfl (.cons rfl .nil)) rfl ?_
   rintro _ _ rfl hs _
   refine g_take rfl rfl rfl ?_
   refine s_pu (p_not rfl) rfl ?_
   refine s_pu (p_pickF rfl rfl) rfl ?_
   refine WL_th ⟨hs, _, ?_, Ext.cons rfl (ext_kc rfl (ext_kc rfl ext_kn))⟩
   exact ⟨fun h => (by cases h), fun _ h => by rw [h, beq_self_eq_true] at hb11; cases hb11⟩
 ·
  intro w15 b15 hs hb15
  refine WL_forget (Ext.cd 1 rfl (Ext.cd 2 rfl (Ext.cd 15 rfl (Ext.nil _)))) ?_
  show WL _ _ _ [] _ _ _
  refine WL_th ?_
  refine W_if rfl (fun h15 => ?_) (fun h15 => ?_)
  ·
   refine W_sr ?_
   refine s_pu (p_assign rfl) rfl ?_
   refine WL_th ?_
   refine W_ret ?_
   refine th_ret ?_
   refine ret_tmp (fn := Tryz.f26) rfl rfl ?_
   exact ⟨⟨_, rfl, fun _ => rfl⟩, hs.keep0⟩
  ·
   have hne := hb15.2 h15
   have hpos : 0 < s.size := size_pos hne
   refine W_skip_th ?_
   refine W_seq ?_
   refine W_sr ?_
   refine s_pu (p_move rfl) rfl ?_
   refine s_pu (p_indexS (by kernel_rfl) rfl rfl ?_ ?_) rfl ?_
   ·
    omega
   ·
    exact hpos
   refine s_pu (p_rem rfl rfl ?_) rfl ?_
   ·
    omega
   refine s_pu (p_eqI rfl rfl) rfl ?_
   refine WL_th ?_
   refine W_if rfl (fun h19 => ?_) (fun h19 => ?_)
   ·
    refine W_seq ?_
    refine W_sr ?_
    refine s_pu (p_move rfl) rfl ?_
    refine WL_th ?_
    refine W_block ?_
    refine W_sr ?_
    refine s_pu (p_eqI rfl rfl) rfl ?_
    refine s_pu (p_assign rfl) rfl ?_
    refine WL_th ?_
    refine W_if rfl (fun h21 => ?_) (fun h21 => ?_)
    ·
     refine W_sr ?_
     refine s_pu (p_assign rfl) rfl ?_
     refine WL_th ?_
     refine W_ret ?_
     refine bl_ret ?_
     refine th_ret ?_
     refine th_ret ?_
     refine ret_tmp (fn := Tryz.f26) rfl rfl ?_
     exact ⟨⟨_, rfl, fun h => absurd h hne⟩, hs.keep0⟩
    ·
     refine W_sr ?_
     refine s_pu (p_eqI rfl rfl) rfl ?_
     refine s_pu (p_assign rfl) rfl ?_
     refine WL_th ?_
     refine W_forget (Ext.cd 23 rfl (Ext.nil _)) ?_
     refine W_if rfl (fun h23 => ?_) (fun h23 => ?_)
     ·
      refine W_sr ?_
      refine s_pu (p_assign rfl) rfl ?_
      refine WL_th ?_
      refine W_ret ?_
      refine bl_ret ?_
      refine th_ret ?_
      refine th_ret ?_
      refine ret_tmp (fn := Tryz.f26) rfl rfl ?_
      exact ⟨⟨_, rfl, fun h => absurd h hne⟩, hs.keep0⟩
     ·
      refine W_skip ?_
      show W _ _ _ _ _ _
      refine W_sr ?_
      refine s_pu (p_assign rfl) rfl ?_
      refine WL_th ?_
      refine W_ret ?_
      refine th_ret ?_
      refine ret_tmp (fn := Tryz.f26) rfl rfl ?_
      exact ⟨⟨_, rfl, fun h => absurd h hne⟩, hs.keep0⟩
   ·
    refine W_skip_th ?_
    refine W_sr ?_
    refine k_bs hs (.one rfl rfl rfl .nil) rfl rfl rfl ?_
    intro b25 _ hs
    have hs := hs.imp .head (pt_row (n := 1) (sz := 1) rfl (maxLen_big rfl))
    have hs := hs.imp .head (row_to (g := fun i => (([33] : List Int).map (Value.int .u8))[i]?.getD undef) (fun i hi => by have h0 : i = 0 := (by omega); subst h0; rfl))
    refine s_pu (p_assign rfl) rfl ?_
    refine WL_th ?_
    refine W_seq ?_
    refine W_sr ?_
    refine s_pu (p_assign rfl) rfl ?_
    refine WL_th ?_
    refine W_block ?_
    refine W_loop (α := Nat × Value × List Int) (fun x => (upd (upd (upd emp 8 (.int .i64 x.1)) 7 x.2.1) 1 (.string s))) (fun x w => x.1 ≤ s.size ∧ x.2.2.length ≤ x.1 ∧ St wI (fun _ => False) w [rowL x.2.1 5 (x.2.2.map (Value.int .u8))]) (fun x => s.size - x.1) (1, .slice (some ⟨b25, 0, none⟩) 1 1, [33]) (Ext.cons rfl (Ext.cons rfl (Ext.cons rfl (Ext.nil _)))) ⟨by omega, by simp, hs⟩ (fun x w hx => ?_)
    obtain ⟨hle, hxl, hs⟩ := hx
    obtain ⟨S1, hrow⟩ := hs.pick .head
    obtain ⟨ad, cap, hv, _⟩ := rowL_cell hrow
    refine W_seq ?_
    refine W_sr ?_
    refine s_pu (p_move rfl) rfl ?_
    refine s_pu (p_move rfl) rfl ?_
    refine s_pu (p_lenS (by kernel_rfl) rfl) rfl ?_
    refine s_pu (p_ltI rfl rfl) rfl ?_
    refine s_pu (p_move rfl) rfl ?_
    refine WL_cutb 4 34 [1, 7, 8] (fun b => b = true → x.1 < s.size) ?_ ?_
    ·
     refine s_bool 30 rfl (fun hb30 => ?_) (fun hb30 => ?_)
     ·
      have hlt : x.1 < s.size := by have := of_decide_eq_true hb30; omega
      refine g_take rfl rfl rfl ?_
      refine s_pu (p_move rfl) rfl ?_
      refine g_take rfl rfl rfl ?_
      refine s_pu (p_lenL (ad := ad) (l := x.2.2.length) (c := cap) (by show some x.2.1 = _; rw [hv, List.length_map])) rfl ?_
      refine g_take rfl rfl rfl ?_
      refine s_pu (p_leI rfl rfl) rfl ?_
      refine s_pu (p_pickT rfl rfl) rfl ?_
      refine WL_th ⟨rfl, _, ?_, Ext.cons rfl (ext_kc rfl (ext_kc rfl (ext_kc rfl ext_kn)))⟩
      exact fun _ => hlt
     ·
      refine g_skip rfl rfl rfl rfl rfl ?_
      refine g_skip rfl rfl rfl rfl rfl ?_
      refine g_skip rfl rfl rfl rfl rfl ?_
      refine s_pu (p_pickF rfl rfl) rfl ?_
      refine WL_th ⟨rfl, _, ?_, Ext.cons rfl (ext_kc rfl (ext_kc rfl (ext_kc rfl ext_kn)))⟩
      exact fun h => by cases h
    ·
     intro b34 hb34
     refine WL_forget (Ext.cd 1 rfl (Ext.cd 7 rfl (Ext.cd 8 rfl (Ext.cd 34 rfl (Ext.nil _))))) ?_
     show WL _ _ _ [] _ _ _
     refine WL_th ?_
     refine W_if rfl (fun h34 => ?_) (fun h34 => ?_)
     ·
      have hlt := hb34 h34
      refine W_skip_th ?_
      refine W_join (fun e' w' => ∃ (v1 : Value) (ys : List Int), ys.length ≤ x.1 + 1 ∧ Ext e' (upd (upd (upd emp 8 (.int .i64 x.1)) 7 v1) 1 (.string s)) ∧ St wI (fun _ => False) w' [rowL v1 5 (ys.map (Value.int .u8))]) ?_ ?_
      ·
       refine W_block ?_
       refine W_sr ?_
       refine s_pu (p_move rfl) rfl ?_
       refine s_pu (p_move rfl) rfl ?_
       refine s_pu (p_indexS (by kernel_rfl) rfl rfl ?_ ?_) rfl ?_
       ·
        omega
       ·
        (simp; omega)
       refine k_quiet (c_wrAlnum _ _) hs (.cons rfl .nil) rfl ?_
       rintro _ _ ⟨cb, rfl⟩ hs _
       refine WL_th ?_
       refine W_if rfl (fun h40 => ?_) (fun h40 => ?_)
       ·
        refine W_reg ?_
        refine s_pu (p_move rfl) rfl ?_
        refine s_pu (p_move rfl) rfl ?_
        refine s_pu (p_move rfl) rfl ?_
        refine s_pu (p_indexS (by kernel_rfl) rfl rfl ?_ ?_) rfl ?_
        ·
         omega
        ·
         (simp; omega)
        refine k_bs hs (.one rfl rfl rfl .nil) rfl rfl rfl ?_
        intro b45 _ hs
        have hs := hs.front .t1
        have hs := hs.imp .head rowL_row
        refine k_app hs rfl rfl .head rfl (by intro i hi; have h0 : i = 0 := (by omega); subst h0; rfl) (by simp; omega) (by simp; omega) rfl ?_
        intro v46 _ hs
        have hs := hs.imp .head rowL_snoc
        refine s_pu (p_assign rfl) rfl ?_
        refine WL_nil ?_
        show ∃ _, _
        have hs := hs.front .head
        have hs := St.cut (G1 := [_]) hs
        exact ⟨v46, x.2.2 ++ [_], by simp; omega, (Ext.cons rfl (Ext.cons rfl (Ext.cons rfl (Ext.nil _)))), by rw [List.map_append]; exact hs⟩
       ·
        refine W_skip ?_
        show ∃ _, _
        exact ⟨x.2.1, x.2.2, by omega, (Ext.cons rfl (Ext.cons rfl (Ext.cons rfl (Ext.nil _)))), hs⟩
      ·
       rintro e1 w1 ⟨v1, ys, hyl, hx, hs⟩
       refine W_forget hx ?_
       clear hx
       refine W_reg ?_
       refine s_pu (p_move rfl) rfl ?_
       refine s_pu (p_addI rfl rfl ?_) rfl ?_
       ·
        (first | assumption | omega)
       refine s_pu (p_assign rfl) rfl ?_
       refine WL_th ?_
       refine ⟨(x.1 + 1, v1, ys), (Ext.cons rfl (Ext.cons rfl (Ext.cons (by show some (Value.int .i64 ((x.1 : Int) + 1)) = _; simp) (Ext.nil _)))), ⟨by omega, hyl, hs⟩, by simp; omega⟩
     ·
      refine W_exit ?_
      show W _ _ _ _ _ _
      refine W_seq ?_
      refine W_sr ?_
      refine s_pu (p_move rfl) rfl ?_
      refine s_pu (p_lenL (ad := ad) (l := x.2.2.length) (c := cap) (by show some x.2.1 = _; rw [hv, List.length_map])) rfl ?_
      refine s_pu (p_eqI rfl rfl) rfl ?_
      refine WL_th ?_
      refine W_if rfl (fun h49 => ?_) (fun h49 => ?_)
      ·
       refine W_reg ?_
       refine s_pu (p_move rfl) rfl ?_
       refine k_bs hs (.one rfl rfl rfl .nil) rfl rfl rfl ?_
       intro b51 _ hs
       have hs := hs.front .t1
       have hs := hs.imp .head rowL_row
       refine k_app hs rfl rfl .head rfl (by intro i hi; have h0 : i = 0 := (by omega); subst h0; rfl) (by simp; omega) (by simp; omega) rfl ?_
       intro v52 _ hs
       have hs := hs.imp .head rowL_snoc
       have hs := hs.imp .head (rowL_u8 (n := 120))
       refine s_pu (p_assign rfl) rfl ?_
       refine WL_th ?_
       refine W_sr ?_
       refine s_pu (p_move rfl) rfl ?_
       refine k_convBS (el := 5) (by kernel_rfl) (by kernel_rfl) (by kernel_rfl) hs .head rfl rfl ?_
       intro u hu
       refine s_pu (p_assign rfl) rfl ?_
       refine WL_th ?_
       refine W_forget (Ext.cd 6 rfl (Ext.nil _)) ?_
       refine W_ret ?_
       refine ret_tmp (fn := Tryz.f26) rfl rfl ?_
       exact ⟨⟨_, rfl, fun h => absurd h hne⟩, hs.keep0⟩
      ·
       refine W_skip_th ?_
       refine W_sr ?_
       refine s_pu (p_move rfl) rfl ?_
       refine k_convBS (el := 5) (by kernel_rfl) (by kernel_rfl) (by kernel_rfl) hs .head rfl rfl ?_
       intro u hu
       refine s_pu (p_assign rfl) rfl ?_
       refine WL_th ?_
       refine W_ret ?_
       refine ret_tmp (fn := Tryz.f26) rfl rfl ?_
       exact ⟨⟨_, rfl, fun h => absurd h hne⟩, hs.keep0⟩
end Go.Proofs.YtmalghopogngoaaGreatDoor
set_option linter.unusedVariables false
set_option linter.unusedSimpArgs false
set_option maxRecDepth 4000
namespace Go.Proofs.YtmalghopogngoaaGreatDoor
open Go Go.RowKit MW
def MayWordOK : Prop := ∀ (s : ByteArray) (k : Int) w, Quiet Tryz.prog 60 [.string s, .int .i64 k] w fun v => ∃ b, v = .bool b
theorem ext_le (s : ByteArray) : (s.extract 0 (min (s.size : Int) 40).toNat).size ≤ 40 := by
 rw [ByteArray.size_extract]
 omega
/-- What the fitter leaves of a scalar. -/
def SameT (t t' : TRec) : Prop := t'.kind = t.kind ∧ t'.kids = t.kids ∧ (t'.anchor = t.anchor ∨ t'.anchor = ⟨#[]⟩) ∧ (t'.tag = t.tag ∨ t'.tag = ⟨#[]⟩)
theorem SameT.trans {a b c : TRec} (h : SameT a b) (k : SameT b c) : SameT a c :=
 ⟨k.1.trans h.1, k.2.1.trans h.2.1, k.2.2.1.elim (fun e => h.2.2.1.elim (fun e' => .inl (e.trans e')) (fun e' => .inr (e.trans e'))) .inr, k.2.2.2.elim (fun e => h.2.2.2.elim (fun e' => .inl (e.trans e')) (fun e' => .inr (e.trans e'))) .inr⟩
theorem c_fscalar {T : ByteArray → Prop} (hKn : KnownOK T) (hMW : MayWordOK) (fb : Nat) (left : Int) (a : Value) (t : TRec) (flow : Bool) (hone : t.kids.oneCell' = true) (wI : World) (hf : wI.heap[fb]? = some (.cells (mkA 3 (fC left a)) 56 (0, 0))) : Quiet Tryz.prog 27 [.pointer (some ⟨fb, 0, none⟩), .agg (mkA 6 (tc t)), .bool flow] wI fun v => ∃ t', v = .agg (mkA 6 (tc t')) ∧ SameT t t' ∧ t'.value.size ≤ 40 := by
 have hs := St.startNone wI
 refine calls_W (args := [_, _, _]) Tryz.func27 rfl Tryz.ntmps27 rfl ?_
 refine W_sr ?_
 refine k_box hs rfl rfl ?_
 intro b4 _ hs
 refine k_alloc hs rfl ?_
 intro b6 _ hs
 refine WL_th ?_
 refine W_join (fun e' w' => ∃ (t1 : TRec) (z1 : Nat → Value), SameT t t1 ∧ t1.value.size ≤ 40 ∧ Ext e' (upd (upd (upd (upd emp 6 (.pointer (some ⟨b6, 0, none⟩))) 4 (.pointer (some ⟨b4, 0, none⟩))) 2 (.bool flow)) 0 (.pointer (some ⟨fb, 0, none⟩))) ∧ St wI (fun _ => False) w' [pt b4 24 6 (tc t1), pt b6 24 6 z1]) ?_ ?_
 ·
  refine W_reg ?_
  refine s_pu (p_field rfl) rfl ?_
  refine k_ld hs rfl .t1 rfl rfl ?_
  refine s_pu (p_field rfl) rfl ?_
  refine k_ld hs rfl .t1 rfl rfl ?_
  refine s_pu (p_lenS (by kernel_rfl) rfl) rfl ?_
  refine s_pu (p_min rfl rfl) rfl ?_
  refine s_pu (p_subHi (by kernel_rfl) rfl rfl ?_ ?_) rfl ?_
  ·
   omega
  ·
   omega
  refine s_pu (p_field rfl) rfl ?_
  refine k_st hs rfl rfl .t1 rfl rfl ?_
  intro _ hs
  refine WL_th ?_
  have hs := hs.front .head
  have hs := hs.front .t1
  have hs := St.cut (G1 := [_, _]) hs
  have hs := hs.imp .head (pt_to (g := tc { t with value := (t.value.extract 0 (min (t.value.size : Int) 40).toNat) }) (by repeat (first | exact below_zero | refine below_succ ?_ rfl)))
  exact ⟨{ t with value := (t.value.extract 0 (min (t.value.size : Int) 40).toNat) }, _, ⟨rfl, rfl, .inl rfl, .inl rfl⟩, (ext_le _), (Ext.cons rfl (Ext.cons rfl (Ext.cons rfl (Ext.cons rfl (Ext.nil _))))), hs⟩
 ·
  rintro e1 w1 ⟨t1, z1, hsm1, hvs1, hx, hs⟩
  refine W_forget hx ?_
  clear hx
  refine W_join (fun e' w' => ∃ (t2 : TRec) (z2 : Nat → Value), SameT t t2 ∧ t2.value.size ≤ 40 ∧ Ext e' (upd (upd (upd emp 6 (.pointer (some ⟨b6, 0, none⟩))) 4 (.pointer (some ⟨b4, 0, none⟩))) 0 (.pointer (some ⟨fb, 0, none⟩))) ∧ St wI (fun _ => False) w' [pt b4 24 6 (tc t2), pt b6 24 6 z2]) ?_ ?_
  ·
   refine W_sr ?_
   refine s_pu (p_field rfl) rfl ?_
   refine k_ld hs rfl .head rfl rfl ?_
   refine s_pu (p_gtI rfl rfl) rfl ?_
   refine s_pu (p_move rfl) rfl ?_
   refine WL_cutw 7 25 [0, 4, 6] (fun b => True) (fun w => St wI (fun _ => False) w [pt b4 24 6 (tc t1), pt b6 24 6 z1]) ?_ ?_
   ·
    refine s_bool 18 rfl (fun hb18 => ?_) (fun hb18 => ?_)
    ·
     refine g_take rfl rfl rfl ?_
     refine s_pu (p_move rfl) rfl ?_
     refine g_take rfl rfl rfl ?_
     refine s_pu (p_move rfl) rfl ?_
     refine s_bool 20 rfl (fun hb20 => ?_) (fun hb20 => ?_)
     ·
      refine g_skip rfl rfl rfl rfl rfl ?_
      refine g_skip rfl rfl rfl rfl rfl ?_
      refine g_skip rfl rfl rfl rfl rfl ?_
      refine g_take rfl rfl rfl ?_
      refine s_pu (p_pickT rfl rfl) rfl ?_
      refine s_pu (p_pickT rfl rfl) rfl ?_
      refine WL_th ⟨hs, _, ?_, Ext.cons rfl (ext_kc rfl (ext_kc rfl (ext_kc rfl ext_kn)))⟩
      trivial
     ·
      refine g_take rfl rfl rfl ?_
      refine s_pu (p_move rfl) rfl ?_
      refine g_take rfl rfl rfl ?_
      refine k_quiet (c_has fb left a 4 (by decide) _ (hs.old hf)) hs (.cons rfl (.cons rfl .nil)) rfl ?_
      rintro _ _ rfl hs _
      refine g_take rfl rfl rfl ?_
      refine s_pu (p_not rfl) rfl ?_
      refine g_take rfl rfl rfl ?_
      refine s_pu (p_pickF rfl rfl) rfl ?_
      refine s_pu (p_pickT rfl rfl) rfl ?_
      refine WL_th ⟨hs, _, ?_, Ext.cons rfl (ext_kc rfl (ext_kc rfl (ext_kc rfl ext_kn)))⟩
      trivial
    ·
     refine g_skip rfl rfl rfl rfl rfl ?_
     refine g_skip rfl rfl rfl rfl rfl ?_
     refine g_skipU rfl rfl rfl rfl ?_
     refine g_skipU rfl rfl rfl rfl ?_
     refine g_skipU rfl rfl rfl rfl ?_
     refine g_skip rfl rfl rfl rfl rfl ?_
     refine s_pu (p_pickF rfl rfl) rfl ?_
     refine WL_th ⟨hs, _, ?_, Ext.cons rfl (ext_kc rfl (ext_kc rfl (ext_kc rfl ext_kn)))⟩
     trivial
   ·
    intro w25 b25 hs hb25
    refine WL_forget (Ext.cd 0 rfl (Ext.cd 4 rfl (Ext.cd 6 rfl (Ext.cd 25 rfl (Ext.nil _))))) ?_
    show WL _ _ _ [] _ _ _
    refine WL_th ?_
    refine W_if rfl (fun h25 => ?_) (fun h25 => ?_)
    ·
     refine W_reg ?_
     refine s_pu (p_field rfl) rfl ?_
     refine k_st hs rfl rfl .head rfl rfl ?_
     intro _ hs
     refine WL_th ?_
     have hs := hs.front .t1
     have hs := hs.front .t1
     have hs := St.cut (G1 := [_, _]) hs
     have hs := hs.imp .head (pt_to (g := tc { t1 with style := 3 }) (by repeat (first | exact below_zero | refine below_succ ?_ rfl)))
     exact ⟨{ t1 with style := 3 }, _, hsm1.trans ⟨rfl, rfl, .inl rfl, .inl rfl⟩, hvs1, (Ext.cons rfl (Ext.cons rfl (Ext.cons rfl (Ext.nil _)))), hs⟩
    ·
     refine W_skip_th ?_
     have hs := hs.front .t1
     have hs := hs.front .t1
     have hs := St.cut (G1 := [_, _]) hs
     have hs := hs.imp .head (pt_to (g := tc t1) (by repeat (first | exact below_zero | refine below_succ ?_ rfl)))
     exact ⟨t1, _, hsm1.trans ⟨rfl, rfl, .inl rfl, .inl rfl⟩, hvs1, (Ext.cons rfl (Ext.cons rfl (Ext.cons rfl (Ext.nil _)))), hs⟩
  ·
   rintro e2 w2 ⟨t2, z2, hsm2, hvs2, hx, hs⟩
   refine W_forget hx ?_
   clear hx
   refine W_seq ?_
   refine W_sr ?_
   refine s_pu (p_field rfl) rfl ?_
   refine k_ld hs rfl .head rfl rfl ?_
   refine s_pu (p_eqI rfl rfl) rfl ?_
   refine s_pu (p_move rfl) rfl ?_
   refine WL_cutb 4 34 [0, 4, 6] (fun b => True) ?_ ?_
   ·
    refine s_bool 30 rfl (fun hb30 => ?_) (fun hb30 => ?_)
    ·
     refine g_take rfl rfl rfl ?_
     refine s_pu (p_field rfl) rfl ?_
     refine g_take rfl rfl rfl ?_
     refine k_ld hs rfl .head rfl rfl ?_
     refine g_take rfl rfl rfl ?_
     refine s_pu (p_eqS rfl rfl) rfl ?_
     refine s_pu (p_pickT rfl rfl) rfl ?_
     refine WL_th ⟨rfl, _, ?_, Ext.cons rfl (ext_kc rfl (ext_kc rfl (ext_kc rfl ext_kn)))⟩
     trivial
    ·
     refine g_skip rfl rfl rfl rfl rfl ?_
     refine g_skip rfl rfl rfl rfl rfl ?_
     refine g_skip rfl rfl rfl rfl rfl ?_
     refine s_pu (p_pickF rfl rfl) rfl ?_
     refine WL_th ⟨rfl, _, ?_, Ext.cons rfl (ext_kc rfl (ext_kc rfl (ext_kc rfl ext_kn)))⟩
     trivial
   ·
    intro b34 hb34
    refine WL_forget (Ext.cd 0 rfl (Ext.cd 4 rfl (Ext.cd 6 rfl (Ext.cd 34 rfl (Ext.nil _))))) ?_
    show WL _ _ _ (_ :: _) _ _ _
    refine s_pu (p_move rfl) rfl ?_
    refine WL_cutw 3 38 [0, 4, 6] (fun b => True) (fun w => St wI (fun _ => False) w [pt b4 24 6 (tc t2), pt b6 24 6 z2]) ?_ ?_
    ·
     refine s_bool 35 rfl (fun hb35 => ?_) (fun hb35 => ?_)
     ·
      refine g_take rfl rfl rfl ?_
      refine s_pu (p_move rfl) rfl ?_
      refine g_take rfl rfl rfl ?_
      refine k_quiet (c_has fb left a 2 (by decide) _ (hs.old hf)) hs (.cons rfl (.cons rfl .nil)) rfl ?_
      rintro _ _ rfl hs _
      refine s_pu (p_pickT rfl rfl) rfl ?_
      refine WL_th ⟨hs, _, ?_, Ext.cons rfl (ext_kc rfl (ext_kc rfl (ext_kc rfl ext_kn)))⟩
      trivial
     ·
      refine g_skip rfl rfl rfl rfl rfl ?_
      refine g_skip rfl rfl rfl rfl rfl ?_
      refine s_pu (p_pickF rfl rfl) rfl ?_
      refine WL_th ⟨hs, _, ?_, Ext.cons rfl (ext_kc rfl (ext_kc rfl (ext_kc rfl ext_kn)))⟩
      trivial
    ·
     intro w38 b38 hs hb38
     refine WL_forget (Ext.cd 0 rfl (Ext.cd 4 rfl (Ext.cd 6 rfl (Ext.cd 38 rfl (Ext.nil _))))) ?_
     show WL _ _ _ [] _ _ _
     refine WL_th ?_
     refine W_if rfl (fun h38 => ?_) (fun h38 => ?_)
     ·
      refine W_sr ?_
      refine s_pu (p_field rfl) rfl ?_
      refine k_st hs rfl rfl .head rfl rfl ?_
      intro _ hs
      refine s_pu (p_field rfl) rfl ?_
      refine k_st hs rfl rfl .head rfl rfl ?_
      intro _ hs
      refine WL_th ?_
      refine W_sr ?_
      have hs := hs.imp .head (pt_to (g := tc { t2 with anchor := ⟨#[]⟩, tag := ⟨#[]⟩ }) (by repeat (first | exact below_zero | refine below_succ ?_ rfl)))
      refine k_ldW hs rfl .head rfl ?_
      refine k_stW hs rfl rfl .t1 (tc_one (t := { t2 with anchor := ⟨#[]⟩, tag := ⟨#[]⟩ }) (by show t2.kids.oneCell' = true; rw [hsm2.2.1]; exact hone)) ?_
      intro _ hs
      refine WL_th ?_
      refine W_ret ?_
      refine th_ret ?_
      refine ret_cell (fn := Tryz.f27) rfl rfl hs .t1 ?_
      exact ⟨⟨_, rfl, hsm2.trans ⟨rfl, rfl, .inr rfl, .inr rfl⟩, hvs2⟩, hs.keep0⟩
     ·
      refine W_skip_th ?_
      refine W_join (fun e' w' => ∃ (t3 : TRec) (z3 : Nat → Value), SameT t t3 ∧ t3.value.size ≤ 40 ∧ Ext e' (upd (upd emp 6 (.pointer (some ⟨b6, 0, none⟩))) 4 (.pointer (some ⟨b4, 0, none⟩))) ∧ St wI (fun _ => False) w' [pt b4 24 6 (tc t3), pt b6 24 6 z3]) ?_ ?_
      ·
       refine W_sr ?_
       refine s_pu (p_field rfl) rfl ?_
       refine k_ld hs rfl .head rfl rfl ?_
       refine s_pu (p_eqI rfl rfl) rfl ?_
       refine s_pu (p_move rfl) rfl ?_
       refine WL_cutw 15 60 [4, 6] (fun b => True) (fun w => St wI (fun _ => False) w [pt b4 24 6 (tc t2), pt b6 24 6 z2]) ?_ ?_
       ·
        refine s_bool 45 rfl (fun hb45 => ?_) (fun hb45 => ?_)
        ·
         refine g_take rfl rfl rfl ?_
         refine s_pu (p_field rfl) rfl ?_
         refine g_take rfl rfl rfl ?_
         refine k_ld hs rfl .head rfl rfl ?_
         refine g_take rfl rfl rfl ?_
         refine s_pu (p_eqS rfl rfl) rfl ?_
         refine g_take rfl rfl rfl ?_
         refine s_pu (p_move rfl) rfl ?_
         refine s_bool 49 rfl (fun hb49 => ?_) (fun hb49 => ?_)
         ·
          refine g_skip rfl rfl rfl rfl rfl ?_
          refine g_skip rfl rfl rfl rfl rfl ?_
          refine g_skip rfl rfl rfl rfl rfl ?_
          refine g_skip rfl rfl rfl rfl rfl ?_
          refine g_skip rfl rfl rfl rfl rfl ?_
          refine g_skipU rfl rfl rfl rfl ?_
          refine g_skipU rfl rfl rfl rfl ?_
          refine g_skipU rfl rfl rfl rfl ?_
          refine g_skip rfl rfl rfl rfl rfl ?_
          refine g_take rfl rfl rfl ?_
          refine s_pu (p_pickT rfl rfl) rfl ?_
          refine s_pu (p_pickT rfl rfl) rfl ?_
          refine WL_th ⟨hs, _, ?_, Ext.cons rfl (ext_kc rfl (ext_kc rfl ext_kn))⟩
          trivial
         ·
          refine g_take rfl rfl rfl ?_
          refine s_pu (p_field rfl) rfl ?_
          refine g_take rfl rfl rfl ?_
          refine k_ld hs rfl .head rfl rfl ?_
          refine g_take rfl rfl rfl ?_
          refine k_quiet (hKn _ _ (by omega)) hs (.cons rfl .nil) rfl ?_
          rintro _ _ ⟨kk, rfl, _⟩ hs _
          refine g_take rfl rfl rfl ?_
          refine s_pu (p_gtI rfl rfl) rfl ?_
          refine g_take rfl rfl rfl ?_
          refine s_pu (p_move rfl) rfl ?_
          refine s_bool 54 rfl (fun hb54 => ?_) (fun hb54 => ?_)
          ·
           refine g_take rfl rfl rfl ?_
           refine s_pu (p_move rfl) rfl ?_
           refine g_take rfl rfl rfl ?_
           refine k_quiet (c_has fb left a 1 (by decide) _ (hs.old hf)) hs (.cons rfl (.cons rfl .nil)) rfl ?_
           rintro _ _ rfl hs _
           refine g_take rfl rfl rfl ?_
           refine s_pu (p_not rfl) rfl ?_
           refine g_take rfl rfl rfl ?_
           refine s_pu (p_pickT rfl rfl) rfl ?_
           refine g_take rfl rfl rfl ?_
           refine s_pu (p_pickF rfl rfl) rfl ?_
           refine s_pu (p_pickT rfl rfl) rfl ?_
           refine WL_th ⟨hs, _, ?_, Ext.cons rfl (ext_kc rfl (ext_kc rfl ext_kn))⟩
           trivial
          ·
           refine g_skip rfl rfl rfl rfl rfl ?_
           refine g_skip rfl rfl rfl rfl rfl ?_
           refine g_skip rfl rfl rfl rfl rfl ?_
           refine g_take rfl rfl rfl ?_
           refine s_pu (p_pickF rfl rfl) rfl ?_
           refine g_take rfl rfl rfl ?_
           refine s_pu (p_pickF rfl rfl) rfl ?_
           refine s_pu (p_pickT rfl rfl) rfl ?_
           refine WL_th ⟨hs, _, ?_, Ext.cons rfl (ext_kc rfl (ext_kc rfl ext_kn))⟩
           trivial
        ·
         refine g_skip rfl rfl rfl rfl rfl ?_
         refine g_skip rfl rfl rfl rfl rfl ?_
         refine g_skip rfl rfl rfl rfl rfl ?_
         refine g_skip rfl rfl rfl rfl rfl ?_
         refine g_skipU rfl rfl rfl rfl ?_
         refine g_skipU rfl rfl rfl rfl ?_
         refine g_skipU rfl rfl rfl rfl ?_
         refine g_skipU rfl rfl rfl rfl ?_
         refine g_skipU rfl rfl rfl rfl ?_
         refine g_skipU rfl rfl rfl rfl ?_
         refine g_skipU rfl rfl rfl rfl ?_
         refine g_skipU rfl rfl rfl rfl ?_
         refine g_skipU rfl rfl rfl rfl ?_
         refine g_skip rfl rfl rfl rfl rfl ?_
         refine s_pu (p_pickF rfl rfl) rfl ?_
         refine WL_th ⟨hs, _, ?_, Ext.cons rfl (ext_kc rfl (ext_kc rfl ext_kn))⟩
         trivial
       ·
        intro w60 b60 hs hb60
        refine WL_forget (Ext.cd 4 rfl (Ext.cd 6 rfl (Ext.cd 60 rfl (Ext.nil _)))) ?_
        show WL _ _ _ [] _ _ _
        refine WL_th ?_
        refine W_if rfl (fun h60 => ?_) (fun h60 => ?_)
        ·
         refine W_reg ?_
         refine s_pu (p_field rfl) rfl ?_
         refine k_st hs rfl rfl .head rfl rfl ?_
         intro _ hs
         refine WL_th ?_
         have hs := hs.front .t1
         have hs := hs.front .t1
         have hs := St.cut (G1 := [_, _]) hs
         have hs := hs.imp .head (pt_to (g := tc { t2 with style := 3 }) (by repeat (first | exact below_zero | refine below_succ ?_ rfl)))
         exact ⟨{ t2 with style := 3 }, _, hsm2.trans ⟨rfl, rfl, .inl rfl, .inl rfl⟩, hvs2, (Ext.cons rfl (Ext.cons rfl (Ext.nil _))), hs⟩
        ·
         refine W_skip_th ?_
         have hs := hs.front .t1
         have hs := hs.front .t1
         have hs := St.cut (G1 := [_, _]) hs
         have hs := hs.imp .head (pt_to (g := tc t2) (by repeat (first | exact below_zero | refine below_succ ?_ rfl)))
         exact ⟨t2, _, hsm2.trans ⟨rfl, rfl, .inl rfl, .inl rfl⟩, hvs2, (Ext.cons rfl (Ext.cons rfl (Ext.nil _))), hs⟩
      ·
       rintro e3 w3 ⟨t3, z3, hsm3, hvs3, hx, hs⟩
       refine W_forget hx ?_
       clear hx
       refine W_join (fun e' w' => ∃ (t4 : TRec) (z4 : Nat → Value), SameT t t4 ∧ t4.value.size ≤ 40 ∧ Ext e' (upd (upd emp 6 (.pointer (some ⟨b6, 0, none⟩))) 4 (.pointer (some ⟨b4, 0, none⟩))) ∧ St wI (fun _ => False) w' [pt b4 24 6 (tc t4), pt b6 24 6 z4]) ?_ ?_
       ·
        refine W_sr ?_
        refine s_pu (p_field rfl) rfl ?_
        refine k_ld hs rfl .head rfl rfl ?_
        refine s_pu (p_field rfl) rfl ?_
        refine k_ld hs rfl .head rfl rfl ?_
        refine k_quiet (hMW _ _ _) hs (.cons rfl (.cons rfl .nil)) rfl ?_
        rintro _ _ ⟨mb, rfl⟩ hs _
        refine s_pu (p_not rfl) rfl ?_
        refine WL_th ?_
        refine W_if rfl (fun h67 => ?_) (fun h67 => ?_)
        ·
         refine W_reg ?_
         refine s_pu (p_field rfl) rfl ?_
         refine k_st hs rfl rfl .head rfl rfl ?_
         intro _ hs
         refine WL_th ?_
         have hs := hs.front .t1
         have hs := hs.front .t1
         have hs := St.cut (G1 := [_, _]) hs
         have hs := hs.imp .head (pt_to (g := tc { t3 with style := 3 }) (by repeat (first | exact below_zero | refine below_succ ?_ rfl)))
         exact ⟨{ t3 with style := 3 }, _, hsm3.trans ⟨rfl, rfl, .inl rfl, .inl rfl⟩, hvs3, (Ext.cons rfl (Ext.cons rfl (Ext.nil _))), hs⟩
        ·
         refine W_skip_th ?_
         have hs := hs.front .t1
         have hs := hs.front .t1
         have hs := St.cut (G1 := [_, _]) hs
         have hs := hs.imp .head (pt_to (g := tc t3) (by repeat (first | exact below_zero | refine below_succ ?_ rfl)))
         exact ⟨t3, _, hsm3.trans ⟨rfl, rfl, .inl rfl, .inl rfl⟩, hvs3, (Ext.cons rfl (Ext.cons rfl (Ext.nil _))), hs⟩
       ·
        rintro e4 w4 ⟨t4, z4, hsm4, hvs4, hx, hs⟩
        refine W_forget hx ?_
        clear hx
        refine W_join (fun e' w' => ∃ (t5 : TRec) (z5 : Nat → Value), SameT t t5 ∧ t5.value.size ≤ 40 ∧ Ext e' (upd (upd emp 6 (.pointer (some ⟨b6, 0, none⟩))) 4 (.pointer (some ⟨b4, 0, none⟩))) ∧ St wI (fun _ => False) w' [pt b4 24 6 (tc t5), pt b6 24 6 z5]) ?_ ?_
        ·
         refine W_sr ?_
         refine s_pu (p_field rfl) rfl ?_
         refine k_ld hs rfl .head rfl rfl ?_
         refine s_pu (p_field rfl) rfl ?_
         refine k_ld hs rfl .head rfl rfl ?_
         refine k_quiet (hMW _ _ _) hs (.cons rfl (.cons rfl .nil)) rfl ?_
         rintro _ _ ⟨mb2, rfl⟩ hs _
         refine s_pu (p_not rfl) rfl ?_
         refine WL_th ?_
         refine W_if rfl (fun h74 => ?_) (fun h74 => ?_)
         ·
          refine W_reg ?_
          refine s_pu (p_field rfl) rfl ?_
          refine k_st hs rfl rfl .head rfl rfl ?_
          intro _ hs
          refine WL_th ?_
          have hs := hs.front .t1
          have hs := hs.front .t1
          have hs := St.cut (G1 := [_, _]) hs
          have hs := hs.imp .head (pt_to (g := tc { t4 with value := ⟨#[118]⟩ }) (by repeat (first | exact below_zero | refine below_succ ?_ rfl)))
          exact ⟨{ t4 with value := ⟨#[118]⟩ }, _, hsm4.trans ⟨rfl, rfl, .inl rfl, .inl rfl⟩, (by show (⟨#[118]⟩ : ByteArray).size ≤ 40; decide), (Ext.cons rfl (Ext.cons rfl (Ext.nil _))), hs⟩
         ·
          refine W_skip_th ?_
          have hs := hs.front .t1
          have hs := hs.front .t1
          have hs := St.cut (G1 := [_, _]) hs
          have hs := hs.imp .head (pt_to (g := tc t4) (by repeat (first | exact below_zero | refine below_succ ?_ rfl)))
          exact ⟨t4, _, hsm4.trans ⟨rfl, rfl, .inl rfl, .inl rfl⟩, hvs4, (Ext.cons rfl (Ext.cons rfl (Ext.nil _))), hs⟩
        ·
         rintro e5 w5 ⟨t5, z5, hsm5, hvs5, hx, hs⟩
         refine W_forget hx ?_
         clear hx
         refine W_sr ?_
         refine k_ldW hs rfl .head rfl ?_
         refine k_stW hs rfl rfl .t1 (tc_one (by rw [hsm5.2.1]; exact hone)) ?_
         intro _ hs
         refine WL_th ?_
         refine W_ret ?_
         refine ret_cell (fn := Tryz.f27) rfl rfl hs .t1 ?_
         exact ⟨⟨_, rfl, hsm5, hvs5⟩, hs.keep0⟩
end Go.Proofs.YtmalghopogngoaaGreatDoor
set_option linter.unusedVariables false
set_option linter.unusedSimpArgs false
set_option maxRecDepth 4000
namespace Go.Proofs.YtmalghopogngoaaGreatDoor
open Go Go.RowKit MW
def szS : Nat → Nat
 | 0 => 1
 | d + 1 => 1 + 6 * szS d
/-- Trees whose texts and rows are short. -/
inductive Small : TT → Prop where
 | mk {t : TRec} {ks : List TT} : t.value.size ≤ 100000000 → t.anchor.size ≤ 100000000 → t.tag.size ≤ 100000000 → ks.length ≤ 100000000 → (∀ k ∈ ks, Small k) → Small (.mk t ks)
/-- What the fitter makes of a tree. -/
def TreeR (t : TRec) (d fb : Nat) (left : Int) (n : Nat) (R : World → Prop) (v : Value) (G : List Assn) : Prop :=
 ∃ (t' : TT) (left' : Int) (a' : Value) (ns' : List ByteArray), v = .agg (mkA 6 (tc t'.t)) ∧ FitT t' ∧ t'.size ≤ szS d ∧ left - szS d ≤ left' ∧ left' ≤ left ∧ ns'.length ≤ n + szS d ∧ 
  (md t.kind 4 = 1 → t'.t.kind = 1 ∧ t'.kids = [] ∧ t'.t.kids = .slice none 0 0 ∧ (t.anchor = ⟨#[]⟩ → t'.t.anchor = ⟨#[]⟩) ∧ (t.tag = ⟨#[]⟩ → t'.t.tag = ⟨#[]⟩)) ∧
  G = [pt fb 56 3 (fC left' a'), rowL a' 9 (ns'.map Value.string), hold (fun w => RepT w t'), hold R]
def TreeOK (d : Nat) : Prop := ∀ (tt : TT) (R : World → Prop), (∀ w, R w → RepT w tt) → Small tt → ∀ (fb : Nat) (left : Int) (a : Value) (ns : List ByteArray) (level : Int) (flow : Bool), level = 5 - (d : Int) → 0 ≤ level → left - szS d ≥ -1000000 → left ≤ 1000 → ns.length + szS d ≤ 1000000 →
 MW.Spec Tryz.prog 15 [.pointer (some ⟨fb, 0, none⟩), .agg (mkA 6 (tc tt.t)), .int .i64 level, .bool flow].toArray [pt fb 56 3 (fC left a), rowL a 9 (ns.map Value.string), hold R] (TreeR tt.t d fb left ns.length R)
theorem RepT.like {w : World} {t t' : TRec} {ks : List TT} (h : RepT w (.mk t ks)) (e : t'.kids = t.kids) : RepT w (.mk t' ks) := .mk (by have := h.kids; rw [e]; exact this) h.all
theorem Small.like {t t' : TRec} {ks : List TT} (h : Small (.mk t ks)) (e1 : t'.value = t.value) (e2 : t'.anchor = ⟨#[]⟩) (e3 : t'.tag = ⟨#[]⟩) : Small (.mk t' ks) := by
 cases h with | mk s1 s2 s3 s4 s5 => exact .mk (by rw [e1]; exact s1) (by rw [e2]; show (0 : Nat) ≤ 100000000; decide) (by rw [e3]; show (0 : Nat) ≤ 100000000; decide) s4 s5
/-- The text of a new key. -/
def kS (i : Nat) : ByteArray := ⟨#[107]⟩ ++ Utf8.encode (48 + i)
theorem k_wrap {i : Nat} (h : i < 3) : IntKind.i32.wrap (48 + i) = 48 + i := by
 have h' : i = 0 ∨ i = 1 ∨ i = 2 := by omega
 rcases h' with rfl | rfl | rfl <;> decide
theorem k_sz {i : Nat} (h : i < 3) : (⟨#[107]⟩ : ByteArray).size + (Utf8.encode (48 + i)).size ≤ 9223372036854775807 := by
 have h' : i = 0 ∨ i = 1 ∨ i = 2 := by omega
 rcases h' with rfl | rfl | rfl <;> decide +kernel
theorem k_sz2 {i : Nat} (h : i < 3) : (kS i).size ≤ 1000 := by
 have h' : i = 0 ∨ i = 1 ∨ i = 2 := by omega
 rcases h' with rfl | rfl | rfl <;> decide +kernel
theorem FitT.vsize {t : TRec} {ks : List TT} (h : FitT (.mk t ks)) (hk : t.kind = 1) : t.value.size ≤ 1000 := by
 cases h with
 | scalar _ h => exact h
 | alias h => omega
 | list h => omega
 | pairs h => omega
def HasK (ks : List TT) (s : ByteArray) : Prop := ∃ (i : Nat) (k : TT), ks[2 * i]? = some k ∧ k.t.kind = 1 ∧ k.t.value.toList = s.toList
theorem no_three {ks : List TT} (h : ks.length ≤ 4) (h0 : HasK ks (kS 0)) (h1 : HasK ks (kS 1)) (h2 : HasK ks (kS 2)) : False := by
 obtain ⟨i0, k0, e0, _, v0⟩ := h0
 obtain ⟨i1, k1, e1, _, v1⟩ := h1
 obtain ⟨i2, k2, e2, _, v2⟩ := h2
 have l0 := (List.getElem?_eq_some_iff.1 e0).1
 have l1 := (List.getElem?_eq_some_iff.1 e1).1
 have l2 := (List.getElem?_eq_some_iff.1 e2).1
 have n01 : (kS 0).toList ≠ (kS 1).toList := by decide +kernel
 have n02 : (kS 0).toList ≠ (kS 2).toList := by decide +kernel
 have n12 : (kS 1).toList ≠ (kS 2).toList := by decide +kernel
 have hne : ∀ {i j : Nat} {a b : TT} {s t : ByteArray}, ks[2 * i]? = some a → ks[2 * j]? = some b → a.t.value.toList = s.toList → b.t.value.toList = t.toList → s.toList ≠ t.toList → i ≠ j := by
  intro i j a b s t ha hb hs ht hst hij
  subst hij
  rw [ha] at hb
  injection hb with hb
  subst hb
  exact hst (hs.symm.trans ht)
 have a1 := hne e0 e1 v0 v1 n01
 have a2 := hne e0 e2 v0 v2 n02
 have a3 := hne e1 e2 v1 v2 n12
 omega
theorem c_key (d : Nat) (hT : TreeOK d) (tt : TT) (R : World → Prop) (hR : ∀ w, R w → RepT w tt) (hS : Small tt) (o : TRec) (ks : List TT) (hks : ks.length ≤ 4) (fb : Nat) (left : Int) (a : Value) (ns : List ByteArray) (level : Int) (hl : level + 1 = 5 - (d : Int)) (hl0 : 0 ≤ level) (h1 : left - szS d ≥ -1000000) (h2 : left ≤ 1000) (h3 : ns.length + szS d ≤ 1000000) :
  MW.Spec Tryz.prog 61 [.pointer (some ⟨fb, 0, none⟩), .agg (mkA 6 (tc tt.t)), .agg (mkA 6 (tc o)), .int .i64 level].toArray [pt fb 56 3 (fC left a), rowL a 9 (ns.map Value.string), rowT o.kids ks, hold R] fun v G => ∃ (t' : TRec) (left' : Int) (a' : Value) (ns' : List ByteArray), v = .agg (mkA 6 (tc t')) ∧ IsKey t' ∧ t'.kids = .slice none 0 0 ∧ t'.value.size ≤ 1000 ∧ left - szS d ≤ left' ∧ left' ≤ left ∧ ns'.length ≤ ns.length + szS d ∧ G = [pt fb 56 3 (fC left' a'), rowL a' 9 (ns'.map Value.string), rowT o.kids ks, hold R] := by
 intro wI S hsat
 have hs := St.start hsat
 obtain ⟨⟨kind, value, anchor, tag, style, kv⟩, kids⟩ := tt
 refine calls_W (args := [_, _, _, _]) Tryz.func61 rfl Tryz.ntmps61 rfl ?_
 refine W_sr ?_
 refine k_box hs rfl rfl ?_
 intro b5 _ hs
 refine k_box hs rfl rfl ?_
 intro b6 _ hs
 refine k_alloc hs rfl ?_
 intro b8 _ hs
 refine WL_th ?_
 refine W_join (fun e' w' => ∃ (t1 : TRec) (kids1 : List TT) (z8 : Nat → Value), md t1.kind 4 = 1 ∧ (∀ w, R w → RepT w (.mk t1 kids1)) ∧ Small (.mk t1 kids1) ∧ Ext e' (upd (upd (upd (upd (upd emp 8 (.pointer (some ⟨b8, 0, none⟩))) 6 (.pointer (some ⟨b6, 0, none⟩))) 5 (.pointer (some ⟨b5, 0, none⟩))) 3 (.int .i64 level)) 0 (.pointer (some ⟨fb, 0, none⟩))) ∧ St wI S w' [pt b5 24 6 (tc t1), pt b6 24 6 (tc o), pt b8 24 6 z8, pt fb 56 3 (fC left a), rowL a 9 (ns.map Value.string), rowT o.kids ks, hold R]) ?_ ?_
 ·
  refine W_sr ?_
  refine s_pu (p_field rfl) rfl ?_
  refine k_ld hs rfl .t2 rfl rfl ?_
  refine k_quiet (c_modulo _ 4 (by decide) (by decide) _) hs (.cons rfl (.cons rfl .nil)) rfl ?_
  rintro _ _ rfl hs _
  refine s_pu (p_neI rfl rfl) rfl ?_
  refine WL_th ?_
  refine W_if rfl (fun h14 => ?_) (fun h14 => ?_)
  ·
   refine W_reg ?_
   refine s_pu (p_field rfl) rfl ?_
   refine k_ld hs rfl .t2 rfl rfl ?_
   refine s_pu (p_st (.one rfl rfl rfl (.one rfl rfl rfl (.one rfl rfl rfl .nil)))) rfl ?_
   refine k_stW hs rfl rfl .t2 (by repeat (first | exact below_zero | refine below_succ ?_ rfl)) ?_
   intro _ hs
   refine WL_th ?_
   have hs := hs.front .t6
   have hs := hs.front .t6
   have hs := hs.front .t6
   have hs := hs.front .t6
   have hs := hs.front .t4
   have hs := hs.front .t5
   have hs := hs.front .t6
   have hs := St.cut (G1 := [_, _, _, _, _, _, _]) hs
   have hs := hs.imp .head (pt_to (g := tc ⟨1, value, ⟨#[]⟩, ⟨#[]⟩, 1, .slice none 0 0⟩) (by repeat (first | exact below_zero | refine below_succ ?_ rfl)))
   exact ⟨⟨1, value, ⟨#[]⟩, ⟨#[]⟩, 1, .slice none 0 0⟩, [], _, rfl, (fun w _ => .mk (.empty rfl) (by simp)), (by cases hS with | mk s1 s2 s3 s4 s5 => exact .mk s1 (by show (0 : Nat) ≤ 100000000; decide) (by show (0 : Nat) ≤ 100000000; decide) (by simp) (by simp)), (Ext.cons rfl (Ext.cons rfl (Ext.cons rfl (Ext.cons rfl (Ext.cons rfl (Ext.nil _)))))), hs⟩
  ·
   refine W_skip_th ?_
   have hs := hs.front .t6
   have hs := hs.front .t6
   have hs := hs.front .t6
   have hs := hs.front .t6
   have hs := hs.front .t4
   have hs := hs.front .t5
   have hs := hs.front .t6
   have hs := St.cut (G1 := [_, _, _, _, _, _, _]) hs
   have hs := hs.imp .head (pt_to (g := tc ⟨kind, value, anchor, tag, style, kv⟩) (by repeat (first | exact below_zero | refine below_succ ?_ rfl)))
   exact ⟨⟨kind, value, anchor, tag, style, kv⟩, kids, _, (by have h15 : (md kind 4 != 1) = false := h14; simpa using h15), hR, hS, (Ext.cons rfl (Ext.cons rfl (Ext.cons rfl (Ext.cons rfl (Ext.cons rfl (Ext.nil _)))))), hs⟩
 ·
  rintro e1 w1 ⟨t1, kids1, z8, hmd, hR1, hS1, hx, hs⟩
  refine W_forget hx ?_
  clear hx
  refine W_sr ?_
  refine s_pu (p_field rfl) rfl ?_
  refine k_st hs rfl rfl .head rfl rfl ?_
  intro _ hs
  refine s_pu (p_field rfl) rfl ?_
  refine k_st hs rfl rfl .head rfl rfl ?_
  intro _ hs
  refine WL_th ?_
  refine W_seq ?_
  refine W_sr ?_
  refine s_pu (p_move rfl) rfl ?_
  refine k_quiet (c_has fb _ _ 32 (by decide) _ (hs.cell .t3)) hs (.cons rfl (.cons rfl .nil)) rfl ?_
  rintro _ _ rfl hs _
  refine s_pu (p_not rfl) rfl ?_
  refine WL_th ?_
  refine W_false rfl ?_
  refine W_skip_th ?_
  refine W_sr ?_
  refine s_pu (p_move rfl) rfl ?_
  have hs := hs.imp .head (pt_to (g := tc { t1 with anchor := ⟨#[]⟩, tag := ⟨#[]⟩ }) (by repeat (first | exact below_zero | refine below_succ ?_ rfl)))
  generalize ht2 : { t1 with anchor := ⟨#[]⟩, tag := ⟨#[]⟩ } = t2 at hs
  refine k_ldW hs rfl .head rfl ?_
  refine s_pu (p_move rfl) rfl ?_
  refine s_pu (p_addI rfl rfl ?_) rfl ?_
  ·
   (first | assumption | omega)
  refine s_pu (p_field rfl) rfl ?_
  refine k_ld hs rfl .t1 rfl rfl ?_
  refine s_pu (p_eqI rfl rfl) rfl ?_
  have hs := hs.front .t6
  have hs := hs.front .t5
  have hs := hs.front .t5
  subst ht2
  refine k_spec [pt fb 56 3 (fC left a), rowL a 9 (ns.map Value.string), hold R] (hT (.mk { t1 with anchor := ⟨#[]⟩, tag := ⟨#[]⟩ } kids1) R (fun w h => (hR1 w h).like rfl) (hS1.like rfl rfl rfl) fb left a ns (level + 1) _ (by omega) (by omega) h1 h2 h3) hs (.cons rfl (.cons rfl (.cons rfl (.cons rfl .nil)))) rfl ?_
  rintro _ _ _ ⟨t', left', a', ns', rfl, hfit, hsz, hle1, hle2, hns, hkey, rfl⟩ hs
  obtain ⟨hk1, hkids, hk0, hanc, htg⟩ := hkey hmd
  have hanc := hanc rfl
  have htg := htg rfl
  obtain ⟨tk, kk⟩ := t'
  have hvz : tk.value.size ≤ 1000 := hfit.vsize hk1
  refine k_alloc hs rfl ?_
  intro b9 _ hs
  refine k_stW hs rfl rfl .head (tc_one (by rw [hk0]; rfl)) ?_
  intro _ hs
  have hs := hs.imp .head (pt_to (g := tc tk) (by repeat (first | exact below_zero | refine below_succ ?_ rfl)))
  refine WL_th ?_
  refine W_forget (Ext.cd 6 rfl (Ext.cd 8 rfl (Ext.cd 9 rfl (Ext.nil _)))) ?_
  refine W_join (fun e' w' => ∃ (t2 : TRec) (z8 : Nat → Value), (IsKey t2 ∧ t2.kids = .slice none 0 0 ∧ t2.value.size ≤ 1000) ∧ Ext e' (upd (upd (upd emp 9 (.pointer (some ⟨b9, 0, none⟩))) 8 (.pointer (some ⟨b8, 0, none⟩))) 6 (.pointer (some ⟨b6, 0, none⟩))) ∧ St wI S w' [pt b9 24 6 (tc t2), pt b6 24 6 (tc o), pt fb 56 3 (fC left' a'), rowL a' 9 (ns'.map Value.string), rowT o.kids ks, hold R, pt b8 24 6 z8]) ?_ ?_
  ·
   refine W_sr ?_
   refine s_pu (p_field rfl) rfl ?_
   refine k_ld hs rfl .head rfl rfl ?_
   refine s_pu (p_eqI rfl rfl) rfl ?_
   refine s_pu (p_move rfl) rfl ?_
   refine WL_cutb 4 39 [6, 8, 9] (fun b => b = false → tk.style ≤ 3) ?_ ?_
   ·
    refine s_bool 35 rfl (fun hb35 => ?_) (fun hb35 => ?_)
    ·
     refine g_take rfl rfl rfl ?_
     refine s_pu (p_field rfl) rfl ?_
     refine g_take rfl rfl rfl ?_
     refine k_ld hs rfl .head rfl rfl ?_
     refine g_take rfl rfl rfl ?_
     refine s_pu (p_gtI rfl rfl) rfl ?_
     refine s_pu (p_pickT rfl rfl) rfl ?_
     refine WL_th ⟨rfl, _, ?_, Ext.cons rfl (ext_kd rfl rfl (ext_kd rfl rfl (ext_kd rfl rfl ext_kn)))⟩
     exact fun h => by have := of_decide_eq_false h; omega
    ·
     refine g_skip rfl rfl rfl rfl rfl ?_
     refine g_skip rfl rfl rfl rfl rfl ?_
     refine g_skip rfl rfl rfl rfl rfl ?_
     refine s_pu (p_pickF rfl rfl) rfl ?_
     refine WL_th ⟨rfl, _, ?_, Ext.cons rfl (ext_kd rfl rfl (ext_kd rfl rfl (ext_kd rfl rfl ext_kn)))⟩
     exact absurd (show (tk.kind == 1) = true by rw [show tk.kind = 1 from hk1]; rfl) (by rw [show (tk.kind == 1) = false from hb35]; decide)
   ·
    intro b39 hb39
    refine WL_forget (Ext.cd 6 rfl (Ext.cd 8 rfl (Ext.cd 9 rfl (Ext.cd 39 rfl (Ext.nil _))))) ?_
    show WL _ _ _ [] _ _ _
    refine WL_th ?_
    refine W_if rfl (fun h39 => ?_) (fun h39 => ?_)
    ·
     refine W_reg ?_
     refine s_pu (p_field rfl) rfl ?_
     refine k_st hs rfl rfl .head rfl rfl ?_
     intro _ hs
     refine WL_th ?_
     have hs := hs.front .t7
     have hs := hs.front .t5
     have hs := hs.front .t8
     have hs := hs.front .t5
     have hs := hs.front .t5
     have hs := hs.front .t8
     have hs := hs.front .t6
     have hs := St.cut (G1 := [_, _, _, _, _, _, _]) hs
     have hs := hs.imp .head (pt_to (g := tc { tk with style := 3 }) (by repeat (first | exact below_zero | refine below_succ ?_ rfl)))
     exact ⟨{ tk with style := 3 }, _, ⟨⟨hk1, hanc, htg, by show (3 : Int) ≤ 3; decide⟩, hk0, hvz⟩, (Ext.cons rfl (Ext.cons rfl (Ext.cons rfl (Ext.nil _)))), hs⟩
    ·
     refine W_skip_th ?_
     have hs := hs.front .t7
     have hs := hs.front .t5
     have hs := hs.front .t8
     have hs := hs.front .t5
     have hs := hs.front .t5
     have hs := hs.front .t8
     have hs := hs.front .t6
     have hs := St.cut (G1 := [_, _, _, _, _, _, _]) hs
     have hs := hs.imp .head (pt_to (g := tc tk) (by repeat (first | exact below_zero | refine below_succ ?_ rfl)))
     exact ⟨tk, _, ⟨⟨hk1, hanc, htg, hb39 h39⟩, hk0, hvz⟩, (Ext.cons rfl (Ext.cons rfl (Ext.cons rfl (Ext.nil _)))), hs⟩
  ·
   rintro e2 w2 ⟨t2, z82, hk2, hx, hs⟩
   refine W_forget hx ?_
   clear hx
   refine W_join (fun e' w' => ∃ (t3 : TRec) (z8 : Nat → Value), (IsKey t3 ∧ t3.kids = .slice none 0 0 ∧ t3.value.size ≤ 1000) ∧ Ext e' (upd (upd (upd emp 9 (.pointer (some ⟨b9, 0, none⟩))) 8 (.pointer (some ⟨b8, 0, none⟩))) 6 (.pointer (some ⟨b6, 0, none⟩))) ∧ St wI S w' [pt b9 24 6 (tc t3), pt b6 24 6 (tc o), pt fb 56 3 (fC left' a'), rowL a' 9 (ns'.map Value.string), rowT o.kids ks, hold R, pt b8 24 6 z8]) ?_ ?_
   ·
    refine W_sr ?_
    refine k_ldW hs rfl .head rfl ?_
    refine k_quiet (c_hollow _ _) hs (.cons rfl .nil) rfl ?_
    rintro _ _ ⟨hb, rfl, hhb⟩ hs _
    refine WL_th ?_
    refine W_if rfl (fun h42 => ?_) (fun h42 => ?_)
    ·
     refine W_reg ?_
     refine s_pu (p_field rfl) rfl ?_
     refine k_st hs rfl rfl .head rfl rfl ?_
     intro _ hs
     refine WL_th ?_
     have hs := hs.front .t6
     have hs := hs.front .t6
     have hs := hs.front .t6
     have hs := hs.front .t6
     have hs := hs.front .t6
     have hs := hs.front .t6
     have hs := hs.front .t6
     have hs := St.cut (G1 := [_, _, _, _, _, _, _]) hs
     have hs := hs.imp .head (pt_to (g := tc { t2 with value := ⟨#[101]⟩ }) (by repeat (first | exact below_zero | refine below_succ ?_ rfl)))
     exact ⟨{ t2 with value := ⟨#[101]⟩ }, _, ⟨hk2.1, hk2.2.1, by show (⟨#[101]⟩ : ByteArray).size ≤ 1000; decide⟩, (Ext.cons rfl (Ext.cons rfl (Ext.cons rfl (Ext.nil _)))), hs⟩
    ·
     refine W_skip_th ?_
     have hs := hs.front .t6
     have hs := hs.front .t6
     have hs := hs.front .t6
     have hs := hs.front .t6
     have hs := hs.front .t6
     have hs := hs.front .t6
     have hs := hs.front .t6
     have hs := St.cut (G1 := [_, _, _, _, _, _, _]) hs
     have hs := hs.imp .head (pt_to (g := tc t2) (by repeat (first | exact below_zero | refine below_succ ?_ rfl)))
     exact ⟨t2, _, hk2, (Ext.cons rfl (Ext.cons rfl (Ext.cons rfl (Ext.nil _)))), hs⟩
   ·
    rintro e3 w3 ⟨t3, z83, hk3, hx, hs⟩
    refine W_forget hx ?_
    clear hx
    refine W_seq ?_
    refine W_sr ?_
    refine s_pu (p_assign rfl) rfl ?_
    refine WL_th ?_
    refine W_block ?_
    refine W_loop (α := Nat × TRec) (fun x => (upd (upd (upd (upd emp 10 (.int .i64 x.1)) 9 (.pointer (some ⟨b9, 0, none⟩))) 8 (.pointer (some ⟨b8, 0, none⟩))) 6 (.pointer (some ⟨b6, 0, none⟩)))) (fun x w => x.1 ≤ 3 ∧ (IsKey x.2 ∧ x.2.kids = .slice none 0 0 ∧ x.2.value.size ≤ 1000) ∧ (1 ≤ x.1 → x.2.value = kS (x.1 - 1)) ∧ (2 ≤ x.1 → HasK ks (kS 0)) ∧ (3 ≤ x.1 → HasK ks (kS 1)) ∧ St wI S w [pt b9 24 6 (tc x.2), pt b6 24 6 (tc o), pt fb 56 3 (fC left' a'), rowL a' 9 (ns'.map Value.string), rowT o.kids ks, hold R, pt b8 24 6 z83]) (fun x => 4 - x.1) (0, t3) (Ext.cons rfl (Ext.cons rfl (Ext.cons rfl (Ext.cons rfl (Ext.nil _))))) ⟨by omega, hk3, fun h => (by omega), fun h => (by omega), fun h => (by omega), hs⟩ (fun x w hx => ?_)
    obtain ⟨hle, hk4, hv, hh0, hh1, hs⟩ := hx
    obtain ⟨xi, t4⟩ := x
    simp only at hle hk4 hv hh0 hh1 hs
    refine W_seq ?_
    refine W_sr ?_
    refine s_pu (p_field rfl) rfl ?_
    refine k_ld hs rfl .head rfl rfl ?_
    refine s_pu (p_eqI rfl rfl) rfl ?_
    refine s_pu (p_move rfl) rfl ?_
    refine WL_cutw 5 52 [6, 8, 9, 10] (fun b => b = true → HasK ks t4.value) (fun w => St wI S w [pt b9 24 6 (tc t4), pt b6 24 6 (tc o), pt fb 56 3 (fC left' a'), rowL a' 9 (ns'.map Value.string), rowT o.kids ks, hold R, pt b8 24 6 z83]) ?_ ?_
    ·
     refine s_bool 47 rfl (fun hb47 => ?_) (fun hb47 => ?_)
     ·
      refine g_take rfl rfl rfl ?_
      refine k_ldW hs rfl .t1 rfl ?_
      refine g_take rfl rfl rfl ?_
      refine s_pu (p_field rfl) rfl ?_
      refine g_take rfl rfl rfl ?_
      refine k_ld hs rfl .head rfl rfl ?_
      refine g_take rfl rfl rfl ?_
      refine k_quiet (c_keyed _ ks _ _ (by omega) (by obtain ⟨_, hrow⟩ := hs.pick .t4; exact trees_of_row hrow)) hs (.cons rfl (.cons rfl .nil)) rfl ?_
      rintro _ _ ⟨kb, rfl, hkb⟩ hs _
      refine s_pu (p_pickT rfl rfl) rfl ?_
      refine WL_th ⟨hs, _, ?_, Ext.cons rfl (ext_kd rfl rfl (ext_kd rfl rfl (ext_kd rfl rfl (ext_kd rfl rfl ext_kn))))⟩
      exact fun h => hkb h
     ·
      refine g_skip rfl rfl rfl rfl rfl ?_
      refine g_skip rfl rfl rfl rfl rfl ?_
      refine g_skip rfl rfl rfl rfl rfl ?_
      refine g_skip rfl rfl rfl rfl rfl ?_
      refine s_pu (p_pickF rfl rfl) rfl ?_
      refine WL_th ⟨hs, _, ?_, Ext.cons rfl (ext_kd rfl rfl (ext_kd rfl rfl (ext_kd rfl rfl (ext_kd rfl rfl ext_kn))))⟩
      exact fun h => by cases h
    ·
     intro w52 b52 hs hb52
     refine WL_forget (Ext.cd 6 rfl (Ext.cd 8 rfl (Ext.cd 9 rfl (Ext.cd 10 rfl (Ext.cd 52 rfl (Ext.nil _)))))) ?_
     show WL _ _ _ [] _ _ _
     refine WL_th ?_
     refine W_if rfl (fun h52 => ?_) (fun h52 => ?_)
     ·
      have hhas := hb52 h52
      have hx3 : xi < 3 := by
       rcases Nat.lt_or_ge xi 3 with h | h
       ·
        exact h
       ·
        exfalso
        obtain rfl : xi = 3 := by omega
        rw [hv (by omega)] at hhas
        exact no_three hks (hh0 (by omega)) (hh1 (by omega)) hhas
      refine W_skip_th ?_
      refine W_seq ?_
      refine W_block ?_
      refine W_reg ?_
      refine s_pu (p_move rfl) rfl ?_
      refine s_pu (p_addI rfl rfl ?_) rfl ?_
      ·
       (simp; omega)
      refine s_pu (p_conv rfl) rfl ?_
      have e57 : IntKind.i32.wrap (48 + (((xi, t4) : Nat × TRec).1 : Int)) = 48 + xi := k_wrap hx3
      rw [e57]
      refine s_pu (p_convIS (by kernel_rfl) rfl) rfl ?_
      refine s_pu (p_addS rfl rfl ?_) rfl ?_
      ·
       exact k_sz hx3
      refine s_pu (p_field rfl) rfl ?_
      refine k_st hs rfl rfl .head rfl rfl ?_
      intro _ hs
      refine s_pu (p_field rfl) rfl ?_
      refine k_st hs rfl rfl .head rfl rfl ?_
      intro _ hs
      refine WL_nil ?_
      show W _ _ _ _ _ _
      refine W_reg ?_
      refine s_pu (p_move rfl) rfl ?_
      refine s_pu (p_addI rfl rfl ?_) rfl ?_
      ·
       (first | assumption | omega)
      refine s_pu (p_assign rfl) rfl ?_
      refine WL_th ?_
      have hs := hs.front .t6
      have hs := hs.front .t6
      have hs := hs.front .t6
      have hs := hs.front .t6
      have hs := hs.front .t6
      have hs := hs.front .t6
      have hs := hs.front .t6
      have hs := St.cut (G1 := [_, _, _, _, _, _, _]) hs
      have hs := hs.imp .head (pt_to (g := tc { t4 with value := kS xi, style := 1 }) (by repeat (first | exact below_zero | refine below_succ ?_ rfl)))
      refine ⟨(xi + 1, { t4 with value := kS xi, style := 1 }), (Ext.cons rfl (Ext.cons rfl (Ext.cons rfl (Ext.cons (by show some (Value.int .i64 ((xi : Int) + 1)) = _; simp) (Ext.nil _))))), ⟨by omega, ⟨⟨hk4.1.1, hk4.1.2.1, hk4.1.2.2.1, by show (1 : Int) ≤ 3; decide⟩, hk4.2.1, k_sz2 hx3⟩, fun _ => rfl, ?_, ?_, hs⟩, by omega⟩
      ·
       intro h
       have e : xi = 1 ∨ xi = 2 := by omega
       rcases e with rfl | rfl
       ·
        rw [hv (by omega)] at hhas; exact hhas
       ·
        exact hh0 (by omega)
      ·
       intro h
       obtain rfl : xi = 2 := by omega
       rw [hv (by omega)] at hhas; exact hhas
     ·
      refine W_exit ?_
      show W _ _ _ _ _ _
      refine W_sr ?_
      refine k_ldW hs rfl .head rfl ?_
      refine k_stW hs rfl rfl .t6 (tc_one (by rw [hk4.2.1]; rfl)) ?_
      intro _ hs
      refine WL_th ?_
      refine W_ret ?_
      refine ret_cell (fn := Tryz.f61) (n := 6) rfl rfl hs .t6 ?_
      have hs := hs.front .t5
      have hs := hs.front .t5
      have hs := hs.front .t5
      have hs := hs.front .t5
      have hs := St.cut (G1 := [_, _, _, _]) hs
      exact hs.spec ⟨t4, left', a', ns', rfl, hk4.1, hk4.2.1, hk4.2.2, hle1, hle2, hns, rfl⟩
end Go.Proofs.YtmalghopogngoaaGreatDoor
set_option linter.unusedVariables false
set_option linter.unusedSimpArgs false
set_option maxRecDepth 4000
namespace Go.Proofs.YtmalghopogngoaaGreatDoor
open Go Go.RowKit MW
theorem lay6 {z g : Nat → Value} (i : Nat) (hi : i < 6) : lay z (0 * 6) 6 g i = g i := by
 rw [Nat.zero_mul]
 exact lay_all i hi
theorem one_lay6 {z g : Nat → Value} (h : ∀ i, i < 6 → (g i).oneCell' = true) : ∀ i, i < 1 * 6 → (lay z (0 * 6) 6 g i).oneCell' = true := fun i hi => by
 rw [lay6 i (by omega)]
 exact h i (by omega)
theorem rowT_snoc {v : Value} {rs : List TT} {r : TT} {z : Nat → Value} (w : World) (S : Foot) (h : (row v 24 6 (rs.length + 1) (cat (recs 6 (fun r : TT => tc r.t) rs) (rs.length * 6) (lay z (0 * 6) 6 (tc r.t)))).on w S) : (rowT v (rs ++ [r])).on w S :=
 recs_snoc (c := fun r : TT => tc r.t) (a := r) (by omega) (fun j hj => lay6 j hj) w S h
theorem allT_snoc {rs : List TT} {r : TT} {p : TT → Prop} (h1 : ∀ k ∈ rs, p k) (h2 : p r) : ∀ k ∈ rs ++ [r], p k := fun k hk => by
 rcases List.mem_append.1 hk with h | h
 ·
  exact h1 k h
 ·
  rw [List.mem_singleton] at h; subst h; exact h2
theorem FitT.like {t t' : TRec} {ks : List TT} (h : FitT (.mk t ks)) (e : t'.kind = t.kind) (ev : t'.value = t.value) : FitT (.mk t' ks) := by
 cases h with
 | scalar h h2 => exact .scalar (e.trans h) (by rw [ev]; exact h2)
 | alias h => exact .alias (e.trans h)
 | list h h1 => exact .list (e.trans h) h1
 | pairs h h1 h2 => exact .pairs (e.trans h) h1 h2
theorem rowT_val {w : World} {S : Foot} {v : Value} {rs : List TT} (h : (rowT v rs).on w S) : ∃ ad cap, v = .slice ad rs.length cap := by
 obtain ⟨ad, cap, _, _, h1, _⟩ := (trees_of_row h).out
 exact ⟨ad, cap, h1⟩
theorem MW.St.seal_trees {w0 w : World} {F : Foot} {G : List Assn} {v : Value} {rs : List TT} {t : TRec} (hs : St w0 F w (rowT v rs :: hold (fun w => ∀ k ∈ rs, RepT w k) :: G)) (hv : t.kids = v) : St w0 F w (hold (fun w => RepT w (.mk t rs)) :: G) :=
 hs.seal2 fun w S1 S2 h1 h2 => .mk (by rw [hv]; exact trees_of_row h1) (hold_now h2)
def CollR (o : TRec) (d fb : Nat) (left : Int) (n : Nat) (R : World → Prop) (v : Value) (G : List Assn) : Prop :=
 ∃ (t' : TT) (left' : Int) (a' : Value) (ns' : List ByteArray), v = .agg (mkA 6 (tc t'.t)) ∧ FitT t' ∧ t'.t.kind = o.kind ∧ t'.t.anchor = o.anchor ∧ t'.size ≤ 1 + 6 * szS d ∧ left - 6 * szS d ≤ left' ∧ left' ≤ left ∧ ns'.length ≤ n + 6 * szS d ∧
  G = [pt fb 56 3 (fC left' a'), rowL a' 9 (ns'.map Value.string), hold (fun w => RepT w t'), hold R]
theorem c_flist (d : Nat) (hT : TreeOK d) (o : TRec) (hok : o.kind = 2) (hoz : o.kids = .slice none 0 0) (tt : TT) (R : World → Prop) (hR : ∀ w, R w → RepT w tt) (hS : Small tt) (fb : Nat) (left : Int) (a : Value) (ns : List ByteArray) (level : Int) (flow : Bool) (hl : level + 1 = 5 - (d : Int)) (hl0 : 0 ≤ level) (h1 : left - 6 * szS d ≥ -1000000) (h2 : left ≤ 1000) (h3 : ns.length + 6 * szS d ≤ 1000000) :
  MW.Spec Tryz.prog 28 [.pointer (some ⟨fb, 0, none⟩), .agg (mkA 6 (tc o)), .agg (mkA 6 (tc tt.t)), .int .i64 level, .bool flow].toArray [pt fb 56 3 (fC left a), rowL a 9 (ns.map Value.string), hold R] (CollR o d fb left ns.length R) := by
 intro wI S hsat
 have hs := St.start hsat
 obtain ⟨⟨kind, value, anchor, tag, style, kv⟩, kids⟩ := tt
 obtain ⟨okind, ovalue, oanchor, otag, ostyle, okv⟩ := o
 obtain rfl : okind = 2 := hok
 obtain rfl : okv = .slice none 0 0 := hoz
 obtain ⟨ad, cap, b0, o0, hv, hall⟩ := (hR _ (hs.now .t2)).kids.out
 obtain rfl : kv = .slice ad kids.length cap := hv
 have hSk : ∀ k ∈ kids, Small k := by cases hS with | mk s1 s2 s3 s4 s5 => exact s5
 have hkl : kids.length ≤ 100000000 := by cases hS with | mk s1 s2 s3 s4 s5 => exact s4
 have m1 := md_lt (x := style) (n := 2) (by decide)
 have m2 := md_ge (x := style) (n := 2) (by decide)
 have m3 := md_lt (x := md style 2 - 1) (n := 2) (by decide)
 have m4 := md_ge (x := md style 2 - 1) (n := 2) (by decide)
 refine calls_W (args := [_, _, _, _, _]) Tryz.func28 rfl Tryz.ntmps28 rfl ?_
 refine W_sr ?_
 refine k_box hs rfl rfl ?_
 intro b6 _ hs
 refine k_box hs rfl rfl ?_
 intro b7 _ hs
 refine k_alloc hs rfl ?_
 intro b10 _ hs
 refine WL_th ?_
 refine W_sr ?_
 refine s_pu (p_field rfl) rfl ?_
 refine k_ld hs rfl .t1 rfl rfl ?_
 refine k_quiet (c_modulo _ 2 (by decide) (by decide) _) hs (.cons rfl (.cons rfl .nil)) rfl ?_
 rintro _ _ rfl hs _
 refine s_pu (p_subI rfl rfl ?_) rfl ?_
 ·
  (show _ ≤ md style 2 - 1 ∧ md style 2 - 1 ≤ _; omega)
 refine k_quiet (c_modulo _ 2 (by decide) (by decide) _) hs (.cons rfl (.cons rfl .nil)) rfl ?_
 rintro _ _ rfl hs _
 refine s_pu (p_addI rfl rfl ?_) rfl ?_
 ·
  (show _ ≤ 1 + md (md style 2 - 1) 2 ∧ 1 + md (md style 2 - 1) 2 ≤ _; omega)
 refine s_pu (p_field rfl) rfl ?_
 refine k_st hs rfl rfl .t2 rfl rfl ?_
 intro _ hs
 refine WL_th ?_
 refine W_join (fun e' w' => ∃ (st : Int) (z10 : Nat → Value), Ext e' (upd (upd (upd (upd (upd emp 10 (.pointer (some ⟨b10, 0, none⟩))) 7 (.pointer (some ⟨b7, 0, none⟩))) 6 (.pointer (some ⟨b6, 0, none⟩))) 3 (.int .i64 level)) 0 (.pointer (some ⟨fb, 0, none⟩))) ∧ St wI S w' [pt b6 24 6 (tc ⟨2, ovalue, oanchor, otag, st, .slice none 0 0⟩), pt b7 24 6 (tc ⟨kind, value, anchor, tag, style, .slice ad kids.length cap⟩), pt b10 24 6 z10, pt fb 56 3 (fC left a), rowL a 9 (ns.map Value.string), hold R]) ?_ ?_
 ·
  refine W_sr ?_
  refine s_pu (p_move rfl) rfl ?_
  refine WL_th ?_
  refine W_if rfl (fun ht22 => ?_) (fun ht22 => ?_)
  ·
   refine W_reg ?_
   refine s_pu (p_field rfl) rfl ?_
   refine k_st hs rfl rfl .t2 rfl rfl ?_
   intro _ hs
   refine WL_th ?_
   have hs := hs.front .t5
   have hs := hs.front .t5
   have hs := hs.front .t5
   have hs := hs.front .t3
   have hs := hs.front .t4
   have hs := hs.front .t5
   have hs := St.cut (G1 := [_, _, _, _, _, _]) hs
   have hs := hs.imp .head (pt_to (g := tc ⟨2, ovalue, oanchor, otag, 2, .slice none 0 0⟩) (by repeat (first | exact below_zero | refine below_succ ?_ rfl)))
   exact ⟨_, _, (Ext.cons rfl (Ext.cons rfl (Ext.cons rfl (Ext.cons rfl (Ext.cons rfl (Ext.nil _)))))), hs⟩
  ·
   refine W_skip_th ?_
   have hs := hs.front .t5
   have hs := hs.front .t5
   have hs := hs.front .t5
   have hs := hs.front .t3
   have hs := hs.front .t4
   have hs := hs.front .t5
   have hs := St.cut (G1 := [_, _, _, _, _, _]) hs
   have hs := hs.imp .head (pt_to (g := tc ⟨2, ovalue, oanchor, otag, (1 + md (md style 2 - 1) 2), .slice none 0 0⟩) (by repeat (first | exact below_zero | refine below_succ ?_ rfl)))
   exact ⟨_, _, (Ext.cons rfl (Ext.cons rfl (Ext.cons rfl (Ext.cons rfl (Ext.cons rfl (Ext.nil _)))))), hs⟩
 ·
  rintro e1 w1 ⟨st, z10, hx, hs⟩
  refine W_forget hx ?_
  clear hx
  refine W_sr ?_
  refine s_pu (p_field rfl) rfl ?_
  refine k_ld hs rfl .head rfl rfl ?_
  refine s_pu (p_subI rfl rfl ?_) rfl ?_
  ·
   (show _ ≤ (2:Int) - 1 ∧ (2:Int) - 1 ≤ _; decide)
  refine s_pu (p_assign rfl) rfl ?_
  refine WL_th ?_
  refine W_seq ?_
  refine W_sr ?_
  refine s_pu (p_assign rfl) rfl ?_
  refine WL_th ?_
  refine W_block ?_
  have hs := (hs.rowNil 24 6 (recs 6 (fun r : TT => tc r.t) [])).holdT (R := fun w => ∀ r ∈ ([] : List TT), RepT w r) (fun w r h => by simp at h)
  have hs := hs.front .t4
  have hs := hs.front .t4
  have hs := hs.front .t7
  have hs := hs.front .t7
  have hs := hs.front .t7
  have hs := hs.front .t5
  have hs := hs.front .t6
  have hs := hs.front .t7
  have hs := St.cut (G1 := [_, _, _, _, _, _, _, _]) hs
  refine W_loop (α := List TT × Value × Int × Value × List ByteArray) (fun x => (upd (upd (upd (upd (upd (upd (upd emp 12 (.int .i64 x.1.length)) 11 (.int .i64 1)) 10 (.pointer (some ⟨b10, 0, none⟩))) 7 (.pointer (some ⟨b7, 0, none⟩))) 6 (.pointer (some ⟨b6, 0, none⟩))) 3 (.int .i64 level)) 0 (.pointer (some ⟨fb, 0, none⟩)))) (fun x w => x.1.length ≤ 6 ∧ tsizes x.1 ≤ x.1.length * szS d ∧ (∀ r ∈ x.1, FitT r) ∧ left - ((x.1.length * szS d : Nat) : Int) ≤ x.2.2.1 ∧ x.2.2.1 ≤ left ∧ x.2.2.2.2.length ≤ ns.length + x.1.length * szS d ∧ St wI S w [pt b6 24 6 (tc ⟨2, ovalue, oanchor, otag, st, x.2.1⟩), rowT x.2.1 x.1, hold (fun w => ∀ r ∈ x.1, RepT w r), pt fb 56 3 (fC x.2.2.1 x.2.2.2.1), rowL x.2.2.2.1 9 (x.2.2.2.2.map Value.string), hold R, pt b7 24 6 (tc ⟨kind, value, anchor, tag, style, .slice ad kids.length cap⟩), pt b10 24 6 z10]) (fun x => 6 - x.1.length) ([], .slice none 0 0, left, a, ns) (Ext.cons rfl (Ext.cons rfl (Ext.cons rfl (Ext.cons rfl (Ext.cons rfl (Ext.cons rfl (Ext.cons rfl (Ext.nil _)))))))) ⟨by simp, by simp [tsizes], by simp, by simp, by simp, by simp, hs⟩ (fun x w hx => ?_)
  obtain ⟨hx6, hxs, hxf, hxl, hxl2, hxn, hs⟩ := hx
  obtain ⟨ts, v1, left1, a1, ns1⟩ := x
  simp only at hx6 hxs hxf hxl hxl2 hxn hs
  have hM := Nat.mul_le_mul_right (szS d) hx6
  refine W_seq ?_
  refine W_sr ?_
  refine s_pu (p_move rfl) rfl ?_
  refine s_pu (p_move rfl) rfl ?_
  refine s_pu (p_addI rfl rfl ?_) rfl ?_
  ·
   (simp; omega)
  refine s_pu (p_field rfl) rfl ?_
  refine k_ld hs rfl .t6 rfl rfl ?_
  refine s_pu (p_lenL rfl) rfl ?_
  refine s_pu (p_leI rfl rfl) rfl ?_
  refine s_pu (p_move rfl) rfl ?_
  refine WL_cutb 3 37 [0, 3, 6, 7, 10, 11, 12] (fun b => b = true → ts.length + 1 ≤ kids.length ∧ ts.length < 6) ?_ ?_
  ·
   refine s_bool 34 rfl (fun hb34 => ?_) (fun hb34 => ?_)
   ·
    refine g_take rfl rfl rfl ?_
    refine s_pu (p_move rfl) rfl ?_
    refine g_take rfl rfl rfl ?_
    refine s_pu (p_ltI rfl rfl) rfl ?_
    refine s_pu (p_pickT rfl rfl) rfl ?_
    refine WL_th ⟨rfl, _, ?_, Ext.cons rfl (ext_kd rfl rfl (ext_kd rfl rfl (ext_kd rfl rfl (ext_kd rfl rfl (ext_kd rfl rfl (ext_kd rfl rfl (ext_kd rfl rfl ext_kn)))))))⟩
    exact fun h => ⟨by have := of_decide_eq_true hb34; dsimp only at this; omega, by have := of_decide_eq_true h; dsimp only at this; omega⟩
   ·
    refine g_skip rfl rfl rfl rfl rfl ?_
    refine g_skip rfl rfl rfl rfl rfl ?_
    refine s_pu (p_pickF rfl rfl) rfl ?_
    refine WL_th ⟨rfl, _, ?_, Ext.cons rfl (ext_kd rfl rfl (ext_kd rfl rfl (ext_kd rfl rfl (ext_kd rfl rfl (ext_kd rfl rfl (ext_kd rfl rfl (ext_kd rfl rfl ext_kn)))))))⟩
    exact fun h => by cases h
  ·
   intro b37 hb37
   refine WL_forget (Ext.cd 0 rfl (Ext.cd 3 rfl (Ext.cd 6 rfl (Ext.cd 7 rfl (Ext.cd 10 rfl (Ext.cd 11 rfl (Ext.cd 12 rfl (Ext.cd 37 rfl (Ext.nil _))))))))) ?_
   show WL _ _ _ (_ :: _) _ _ _
   refine s_pu (p_move rfl) rfl ?_
   refine WL_cutb 7 45 [0, 3, 6, 7, 10, 11, 12] (fun b => b = true → ts.length + 1 ≤ kids.length ∧ ts.length < 6) ?_ ?_
   ·
    refine s_bool 38 rfl (fun hb38 => ?_) (fun hb38 => ?_)
    ·
     refine g_take rfl rfl rfl ?_
     refine s_pu (p_move rfl) rfl ?_
     refine g_take rfl rfl rfl ?_
     refine s_pu (p_nilCheck rfl) rfl ?_
     refine g_take rfl rfl rfl ?_
     refine s_pu (p_field rfl) rfl ?_
     refine g_take rfl rfl rfl ?_
     refine k_ld hs rfl .t3 rfl rfl ?_
     refine g_take rfl rfl rfl ?_
     refine s_pu (p_move rfl) rfl ?_
     refine g_take rfl rfl rfl ?_
     refine s_pu (p_geI rfl rfl) rfl ?_
     refine s_pu (p_pickT rfl rfl) rfl ?_
     refine WL_th ⟨rfl, _, ?_, Ext.cons rfl (ext_kd rfl rfl (ext_kd rfl rfl (ext_kd rfl rfl (ext_kd rfl rfl (ext_kd rfl rfl (ext_kd rfl rfl (ext_kd rfl rfl ext_kn)))))))⟩
     exact fun _ => hb37 hb38
    ·
     refine g_skip rfl rfl rfl rfl rfl ?_
     refine g_skip rfl rfl rfl rfl rfl ?_
     refine g_skip rfl rfl rfl rfl rfl ?_
     refine g_skip rfl rfl rfl rfl rfl ?_
     refine g_skip rfl rfl rfl rfl rfl ?_
     refine g_skip rfl rfl rfl rfl rfl ?_
     refine s_pu (p_pickF rfl rfl) rfl ?_
     refine WL_th ⟨rfl, _, ?_, Ext.cons rfl (ext_kd rfl rfl (ext_kd rfl rfl (ext_kd rfl rfl (ext_kd rfl rfl (ext_kd rfl rfl (ext_kd rfl rfl (ext_kd rfl rfl ext_kn)))))))⟩
     exact fun h => by cases h
   ·
    intro b45 hb45
    refine WL_forget (Ext.cd 0 rfl (Ext.cd 3 rfl (Ext.cd 6 rfl (Ext.cd 7 rfl (Ext.cd 10 rfl (Ext.cd 11 rfl (Ext.cd 12 rfl (Ext.cd 45 rfl (Ext.nil _))))))))) ?_
    show WL _ _ _ [] _ _ _
    refine WL_th ?_
    refine W_if rfl (fun h45 => ?_) (fun h45 => ?_)
    ·
     obtain ⟨hlt, hlt6⟩ := hb45 h45
     obtain ⟨k, hki⟩ : ∃ k, kids[ts.length]? = some k := ⟨_, List.getElem?_eq_getElem (by omega)⟩
     have hkm := List.mem_of_getElem? hki
     have hM2 : ts.length * szS d + szS d ≤ 6 * szS d := by have := Nat.mul_le_mul_right (szS d) (show ts.length + 1 ≤ 6 by omega); rwa [Nat.add_mul, Nat.one_mul] at this
     obtain ⟨hb0, _⟩ := hall _ (hR _ (hs.now .t5)).kids _ _ hki
     refine W_skip_th ?_
     refine W_seq ?_
     refine W_block ?_
     refine W_seq ?_
     refine W_sr ?_
     refine s_pu (p_field rfl) rfl ?_
     refine k_ld hs rfl .head rfl rfl ?_
     refine s_pu (p_eqI rfl rfl) rfl ?_
     refine WL_th ?_
     refine W_false rfl ?_
     refine W_skip_th ?_
     refine W_seq ?_
     refine h_start (S := fun w => w.heap[b7]? = some (.cells (mkA 6 (tc ⟨kind, value, anchor, tag, style, .slice ad kids.length cap⟩)) 24 (0, 0)) ∧ w.heap[b6]? = some (.cells (mkA 6 (tc ⟨2, ovalue, oanchor, otag, st, v1⟩)) 24 (0, 0)) ∧ R w) (ls := #[false, false, false, false, false, false, false, false, false, false, false, false, false, false]) (n := 14) (by kernel_rfl) (by kernel_rfl) ?_
     have hs := hs.drew
     refine h_pu 0 rfl (ls' := #[true, false, false, false, false, false, false, false, false, false, false, false, false, false]) (by kernel_rfl) (fun _ _ _ h => h) rfl ⟨hs.cell .t6, hs.cell .head, hs.now .t5⟩ (p_move rfl) ?_
     refine h_pu 1 rfl (ls' := #[true, true, false, false, false, false, false, false, false, false, false, false, false, false]) (by kernel_rfl) (fun _ _ _ h => h) rfl ⟨hs.cell .t6, hs.cell .head, hs.now .t5⟩ (p_field rfl) ?_
     refine h_take 2 rfl (ls' := #[true, true, true, false, false, false, false, false, false, false, false, false, false, false]) (by kernel_rfl) (fun _ _ _ h => h) rfl ⟨hs.cell .t6, hs.cell .head, hs.now .t5⟩ (fun w hw => q_ld rfl hw.1 rfl) ?_
     refine h_pu 3 rfl (ls' := #[true, true, true, true, false, false, false, false, false, false, false, false, false, false]) (by kernel_rfl) (fun _ _ _ h => h) rfl ⟨hs.cell .t6, hs.cell .head, hs.now .t5⟩ (p_move rfl) ?_
     refine h_pu 4 rfl (ls' := #[true, true, true, true, true, false, false, false, false, false, false, false, false, false]) (by kernel_rfl) (fun _ _ _ h => h) rfl ⟨hs.cell .t6, hs.cell .head, hs.now .t5⟩ (p_elem (by show some (Value.slice ad kids.length cap) = _; rw [hb0]) rfl (by dsimp only; omega) (by dsimp only; omega)) ?_
     refine h_take 5 rfl (ls' := #[true, true, true, true, true, true, false, false, false, false, false, false, false, false]) (by kernel_rfl) (fun _ _ _ h => h) rfl ⟨hs.cell .t6, hs.cell .head, hs.now .t5⟩ (fun w hw => m_loadA (n := 6) (g := tc k.t) rfl (by rw [Int.toNat_natCast]; exact (hall _ (hR _ hw.2.2).kids _ _ hki).2)) ?_
     refine h_pu 6 rfl (ls' := #[true, true, true, true, true, true, true, false, false, false, false, false, false, false]) (by kernel_rfl) (fun _ _ _ h => h) rfl ⟨hs.cell .t6, hs.cell .head, hs.now .t5⟩ (p_move rfl) ?_
     refine h_pu 7 rfl (ls' := #[true, true, true, true, true, true, true, true, false, false, false, false, false, false]) (by kernel_rfl) (fun _ _ _ h => h) rfl ⟨hs.cell .t6, hs.cell .head, hs.now .t5⟩ (p_addI rfl rfl ?_) ?_
     ·
      (first | assumption | omega)
     refine h_pu 8 rfl (ls' := #[true, true, true, true, true, true, true, true, true, false, false, false, false, false]) (by kernel_rfl) (fun _ _ _ h => h) rfl ⟨hs.cell .t6, hs.cell .head, hs.now .t5⟩ (p_field rfl) ?_
     refine h_take 9 rfl (ls' := #[true, true, true, true, true, true, true, true, true, true, false, false, false, false]) (by kernel_rfl) (fun _ _ _ h => h) rfl ⟨hs.cell .t6, hs.cell .head, hs.now .t5⟩ (fun w hw => q_ld rfl hw.2.1 rfl) ?_
     refine h_pu 10 rfl (ls' := #[true, true, true, true, true, true, true, true, true, true, true, false, false, false]) (by kernel_rfl) (fun _ _ _ h => h) rfl ⟨hs.cell .t6, hs.cell .head, hs.now .t5⟩ (p_eqI rfl rfl) ?_
     refine h_two 11 12 rfl rfl (ls' := #[true, true, true, true, true, true, true, true, true, true, true, true, false, false]) (ls'' := #[true, true, true, true, true, true, true, true, true, true, true, false, true, false]) (by kernel_rfl) ?_ ?_
     ·
      have hs := hs.front .t5
      have hs := hs.front .t5
      have hs := hs.front .t5
      refine k_spec [pt fb 56 3 (fC left1 a1), rowL a1 9 (ns1.map Value.string), hold R] (hT k R (fun w h => (hR w h).all k hkm) (hSk _ hkm) fb left1 a1 ns1 (level + 1) _ (by omega) (by omega) (by omega) (by omega) (by omega)) hs (.cons rfl (.cons rfl (.cons rfl (.cons rfl .nil)))) rfl ?_
      rintro _ _ _ ⟨⟨tk, kk⟩, left2, a2, ns2, rfl, hfit, hsz, hl2, hl3, hn2, hkey, rfl⟩ hs
      refine WL_th ⟨⟨hs.cell .t7, hs.cell .t4, hs.now .t3⟩, ?_⟩
      refine h_one 12 rfl (ls' := #[true, true, true, true, true, true, true, true, true, true, true, true, true, false]) (by kernel_rfl) ?_
      refine k_alloc hs rfl ?_
      intro b14 _ hs
      refine WL_th ⟨⟨hs.cell .t8, hs.cell .t5, hs.now .t4⟩, ?_⟩
      refine h_one 13 rfl (ls' := #[true, true, true, true, true, true, true, true, true, true, true, true, true, true]) (by kernel_rfl) ?_
      refine k_stW hs rfl rfl .head (tc_one (hs.now (R := fun w => RepT w (.mk tk kk)) .t3).kids.one) ?_
      intro _ hs
      have hs := hs.imp .head (pt_to (g := tc tk) (by repeat (first | exact below_zero | refine below_succ ?_ rfl)))
      have hs := hs.front .t9
      have hs := hs.front .t9
      have hs := hs.front .t6
      have hs := hs.front .t5
      have hs := hs.front .t5
      have hs := hs.front .t9
      have hs := hs.front .t7
      have hs := hs.front .t9
      have hs := hs.front .t9
      have hs := hs.front .t9
      have hs := St.cut (G1 := [_, _, _, _, _, _, _, _, _, _]) hs
      refine WL_th ⟨⟨hs.cell .t8, hs.cell .t1, hs.now .t7⟩, ?_⟩
      refine h_done (by kernel_rfl) ?_
      show W _ _ _ _ _ _
      refine W_forget (Ext.cd 0 rfl (Ext.cd 3 rfl (Ext.cd 6 rfl (Ext.cd 7 rfl (Ext.cd 10 rfl (Ext.cd 11 rfl (Ext.cd 12 rfl (Ext.cd 14 rfl (Ext.nil _))))))))) ?_
      refine W_join (fun e' w' => ∃ (tk2 : TRec), (tk2.kind = tk.kind ∧ tk2.value = tk.value) ∧ tk2.kids = tk.kids ∧ Ext e' (upd (upd (upd (upd (upd (upd (upd (upd emp 14 (.pointer (some ⟨b14, 0, none⟩))) 12 (.int .i64 ts.length)) 11 (.int .i64 1)) 10 (.pointer (some ⟨b10, 0, none⟩))) 7 (.pointer (some ⟨b7, 0, none⟩))) 6 (.pointer (some ⟨b6, 0, none⟩))) 3 (.int .i64 level)) 0 (.pointer (some ⟨fb, 0, none⟩))) ∧ St wI S w' [pt b14 24 6 (tc tk2), pt b6 24 6 (tc ⟨2, ovalue, oanchor, otag, st, v1⟩), rowT v1 ts, hold (fun w => RepT w (.mk tk kk)), hold (fun w => ∀ r ∈ ts, RepT w r), pt fb 56 3 (fC left2 a2), rowL a2 9 (ns2.map Value.string), hold R, pt b7 24 6 (tc ⟨kind, value, anchor, tag, style, .slice ad kids.length cap⟩), pt b10 24 6 z10]) ?_ ?_
      ·
       refine W_sr ?_
       refine s_pu (p_field rfl) rfl ?_
       refine k_ld hs rfl .t1 rfl rfl ?_
       refine s_pu (p_eqI rfl rfl) rfl ?_
       refine s_pu (p_move rfl) rfl ?_
       refine WL_cutw 3 98 [0, 3, 6, 7, 10, 11, 12, 14] (fun b => True) (fun w => St wI S w [pt b14 24 6 (tc tk), pt b6 24 6 (tc ⟨2, ovalue, oanchor, otag, st, v1⟩), rowT v1 ts, hold (fun w => RepT w (.mk tk kk)), hold (fun w => ∀ r ∈ ts, RepT w r), pt fb 56 3 (fC left2 a2), rowL a2 9 (ns2.map Value.string), hold R, pt b7 24 6 (tc ⟨kind, value, anchor, tag, style, .slice ad kids.length cap⟩), pt b10 24 6 z10]) ?_ ?_
       ·
        refine s_bool 95 rfl (fun hb95 => ?_) (fun hb95 => ?_)
        ·
         refine g_take rfl rfl rfl ?_
         refine k_ldW hs rfl .head rfl ?_
         refine g_take rfl rfl rfl ?_
         refine k_quiet (c_void _ _) hs (.cons rfl .nil) rfl ?_
         rintro _ _ ⟨vb, rfl, _⟩ hs _
         refine s_pu (p_pickT rfl rfl) rfl ?_
         refine WL_th ⟨hs, _, ?_, Ext.cons rfl (ext_kd rfl rfl (ext_kd rfl rfl (ext_kd rfl rfl (ext_kd rfl rfl (ext_kd rfl rfl (ext_kd rfl rfl (ext_kd rfl rfl (ext_kd rfl rfl ext_kn))))))))⟩
         trivial
        ·
         refine g_skip rfl rfl rfl rfl rfl ?_
         refine g_skip rfl rfl rfl rfl rfl ?_
         refine s_pu (p_pickF rfl rfl) rfl ?_
         refine WL_th ⟨hs, _, ?_, Ext.cons rfl (ext_kd rfl rfl (ext_kd rfl rfl (ext_kd rfl rfl (ext_kd rfl rfl (ext_kd rfl rfl (ext_kd rfl rfl (ext_kd rfl rfl (ext_kd rfl rfl ext_kn))))))))⟩
         trivial
       ·
        intro w98 b98 hs hb98
        refine WL_forget (Ext.cd 0 rfl (Ext.cd 3 rfl (Ext.cd 6 rfl (Ext.cd 7 rfl (Ext.cd 10 rfl (Ext.cd 11 rfl (Ext.cd 12 rfl (Ext.cd 14 rfl (Ext.cd 98 rfl (Ext.nil _)))))))))) ?_
        show WL _ _ _ [] _ _ _
        refine WL_th ?_
        refine W_if rfl (fun h98 => ?_) (fun h98 => ?_)
        ·
         refine W_reg ?_
         refine s_pu (p_field rfl) rfl ?_
         refine k_st hs rfl rfl .head rfl rfl ?_
         intro _ hs
         refine WL_th ?_
         have hs := hs.front .t9
         have hs := hs.front .t9
         have hs := hs.front .t9
         have hs := hs.front .t9
         have hs := hs.front .t9
         have hs := hs.front .t9
         have hs := hs.front .t9
         have hs := hs.front .t9
         have hs := hs.front .t9
         have hs := hs.front .t9
         have hs := St.cut (G1 := [_, _, _, _, _, _, _, _, _, _]) hs
         have hs := hs.imp .head (pt_to (g := tc { tk with style := 2 }) (by repeat (first | exact below_zero | refine below_succ ?_ rfl)))
         exact ⟨{ tk with style := 2 }, ⟨rfl, rfl⟩, rfl, (Ext.cons rfl (Ext.cons rfl (Ext.cons rfl (Ext.cons rfl (Ext.cons rfl (Ext.cons rfl (Ext.cons rfl (Ext.cons rfl (Ext.nil _))))))))), hs⟩
        ·
         refine W_skip_th ?_
         have hs := hs.front .t9
         have hs := hs.front .t9
         have hs := hs.front .t9
         have hs := hs.front .t9
         have hs := hs.front .t9
         have hs := hs.front .t9
         have hs := hs.front .t9
         have hs := hs.front .t9
         have hs := hs.front .t9
         have hs := hs.front .t9
         have hs := St.cut (G1 := [_, _, _, _, _, _, _, _, _, _]) hs
         have hs := hs.imp .head (pt_to (g := tc tk) (by repeat (first | exact below_zero | refine below_succ ?_ rfl)))
         exact ⟨tk, ⟨rfl, rfl⟩, rfl, (Ext.cons rfl (Ext.cons rfl (Ext.cons rfl (Ext.cons rfl (Ext.cons rfl (Ext.cons rfl (Ext.cons rfl (Ext.cons rfl (Ext.nil _))))))))), hs⟩
      ·
       rintro e2 w2 ⟨tk2, hkd1, hkd2, hx, hs⟩
       refine W_forget hx ?_
       clear hx
       have hone2 : tk2.kids.oneCell' = true := by rw [hkd2]; exact (hs.now (R := fun w => RepT w (.mk tk kk)) .t3).kids.one
       refine W_reg ?_
       refine s_pu (p_field rfl) rfl ?_
       refine k_ld hs rfl .t1 rfl rfl ?_
       refine k_ldW hs rfl .head rfl ?_
       refine k_bs hs (.agg rfl .nil) rfl rfl rfl ?_
       intro b103 _ hs
       have hs := hs.front .t3
       refine k_app (n := ts.length) hs rfl rfl .head rfl (one_lay6 (tc_one hone2)) (by omega) (by omega) rfl ?_
       intro v104 _ hs
       have hs := hs.imp .head (rowT_snoc (r := .mk tk2 kk))
       refine s_pu (p_field rfl) rfl ?_
       refine k_st hs rfl rfl .t3 (row_one (hs.pick .head)) rfl ?_
       intro _ hs
       refine WL_nil ?_
       show W _ _ _ _ _ _
       refine W_reg ?_
       refine s_pu (p_move rfl) rfl ?_
       refine s_pu (p_move rfl) rfl ?_
       refine s_pu (p_addI rfl rfl ?_) rfl ?_
       ·
        (first | assumption | omega)
       refine s_pu (p_assign rfl) rfl ?_
       refine WL_th ?_
       have hs := hs.front .t10
       have hs := hs.front .t10
       have hs := hs.front .t10
       have hs := hs.front .t10
       have hs := hs.front .t10
       have hs := hs.front .t10
       have hs := hs.front .t10
       have hs := hs.front .t7
       have hs := hs.front .t10
       have hs := St.cut (G1 := [_, _, _, _, _, _, _, _, _]) hs
       have hs := hs.imp .head (pt_to (g := tc ⟨2, ovalue, oanchor, otag, st, v104⟩) (by repeat (first | exact below_zero | refine below_succ ?_ rfl)))
       have hs := hs.front .t2
       have hs := hs.hold_imp (R' := fun w => RepT w (.mk tk2 kk)) (fun w h => RepT.like (t := tk) h hkd2)
       have hs := hs.front .t3
       have hs := hs.hold_and
       have hs := hs.hold_imp (R' := fun w => ∀ r ∈ ts ++ [TT.mk tk2 kk], RepT w r) (fun w h => allT_snoc h.1 h.2)
       have hs := hs.front .t2
       have hs := hs.front .t2
       refine ⟨(ts ++ [TT.mk tk2 kk], v104, left2, a2, ns2), (Ext.cons rfl (Ext.cons rfl (Ext.cons rfl (Ext.cons rfl (Ext.cons rfl (Ext.cons rfl (Ext.cons (by show some (Value.int .i64 ((ts.length : Int) + 1)) = _; simp) (Ext.nil _)))))))), ⟨by simp; omega, ?_, allT_snoc hxf (hfit.like hkd1.1 hkd1.2), ?_, by simp only; omega, ?_, hs⟩, by simp; omega⟩
       ·
        simp only [List.length_append, List.length_singleton, tsizes_app, tsizes, Nat.add_mul, Nat.one_mul]; simp only [TT.size] at hsz ⊢; omega
       ·
        simp only [List.length_append, List.length_singleton, Nat.add_mul, Nat.one_mul]; omega
       ·
        simp only [List.length_append, List.length_singleton, Nat.add_mul, Nat.one_mul]; omega
     ·
      refine k_alloc hs rfl ?_
      intro b14 _ hs
      refine WL_th ⟨⟨hs.cell .t7, hs.cell .t1, hs.now .t6⟩, ?_⟩
      refine h_one 11 rfl (ls' := #[true, true, true, true, true, true, true, true, true, true, true, true, true, false]) (by kernel_rfl) ?_
      have hs := hs.front .t6
      have hs := hs.front .t6
      have hs := hs.front .t6
      refine k_spec [pt fb 56 3 (fC left1 a1), rowL a1 9 (ns1.map Value.string), hold R] (hT k R (fun w h => (hR w h).all k hkm) (hSk _ hkm) fb left1 a1 ns1 (level + 1) _ (by omega) (by omega) (by omega) (by omega) (by omega)) hs (.cons rfl (.cons rfl (.cons rfl (.cons rfl .nil)))) rfl ?_
      rintro _ _ _ ⟨⟨tk, kk⟩, left2, a2, ns2, rfl, hfit, hsz, hl2, hl3, hn2, hkey, rfl⟩ hs
      refine WL_th ⟨⟨hs.cell .t8, hs.cell .t5, hs.now .t3⟩, ?_⟩
      refine h_one 13 rfl (ls' := #[true, true, true, true, true, true, true, true, true, true, true, true, true, true]) (by kernel_rfl) ?_
      refine k_stW hs rfl rfl .t4 (tc_one (hs.now (R := fun w => RepT w (.mk tk kk)) .t2).kids.one) ?_
      intro _ hs
      have hs := hs.imp .t4 (pt_to (g := tc tk) (by repeat (first | exact below_zero | refine below_succ ?_ rfl)))
      have hs := hs.front .t9
      have hs := hs.front .t9
      have hs := hs.front .t5
      have hs := hs.front .t4
      have hs := hs.front .t4
      have hs := hs.front .t9
      have hs := hs.front .t6
      have hs := hs.front .t9
      have hs := hs.front .t9
      have hs := hs.front .t9
      have hs := St.cut (G1 := [_, _, _, _, _, _, _, _, _, _]) hs
      refine WL_th ⟨⟨hs.cell .t8, hs.cell .t1, hs.now .t7⟩, ?_⟩
      refine h_done (by kernel_rfl) ?_
      show W _ _ _ _ _ _
      refine W_forget (Ext.cd 0 rfl (Ext.cd 3 rfl (Ext.cd 6 rfl (Ext.cd 7 rfl (Ext.cd 10 rfl (Ext.cd 11 rfl (Ext.cd 12 rfl (Ext.cd 14 rfl (Ext.nil _))))))))) ?_
      refine W_join (fun e' w' => ∃ (tk2 : TRec), (tk2.kind = tk.kind ∧ tk2.value = tk.value) ∧ tk2.kids = tk.kids ∧ Ext e' (upd (upd (upd (upd (upd (upd (upd (upd emp 14 (.pointer (some ⟨b14, 0, none⟩))) 12 (.int .i64 ts.length)) 11 (.int .i64 1)) 10 (.pointer (some ⟨b10, 0, none⟩))) 7 (.pointer (some ⟨b7, 0, none⟩))) 6 (.pointer (some ⟨b6, 0, none⟩))) 3 (.int .i64 level)) 0 (.pointer (some ⟨fb, 0, none⟩))) ∧ St wI S w' [pt b14 24 6 (tc tk2), pt b6 24 6 (tc ⟨2, ovalue, oanchor, otag, st, v1⟩), rowT v1 ts, hold (fun w => RepT w (.mk tk kk)), hold (fun w => ∀ r ∈ ts, RepT w r), pt fb 56 3 (fC left2 a2), rowL a2 9 (ns2.map Value.string), hold R, pt b7 24 6 (tc ⟨kind, value, anchor, tag, style, .slice ad kids.length cap⟩), pt b10 24 6 z10]) ?_ ?_
      ·
       refine W_sr ?_
       refine s_pu (p_field rfl) rfl ?_
       refine k_ld hs rfl .t1 rfl rfl ?_
       refine s_pu (p_eqI rfl rfl) rfl ?_
       refine s_pu (p_move rfl) rfl ?_
       refine WL_cutw 3 98 [0, 3, 6, 7, 10, 11, 12, 14] (fun b => True) (fun w => St wI S w [pt b14 24 6 (tc tk), pt b6 24 6 (tc ⟨2, ovalue, oanchor, otag, st, v1⟩), rowT v1 ts, hold (fun w => RepT w (.mk tk kk)), hold (fun w => ∀ r ∈ ts, RepT w r), pt fb 56 3 (fC left2 a2), rowL a2 9 (ns2.map Value.string), hold R, pt b7 24 6 (tc ⟨kind, value, anchor, tag, style, .slice ad kids.length cap⟩), pt b10 24 6 z10]) ?_ ?_
       ·
        refine s_bool 95 rfl (fun hb95 => ?_) (fun hb95 => ?_)
        ·
         refine g_take rfl rfl rfl ?_
         refine k_ldW hs rfl .head rfl ?_
         refine g_take rfl rfl rfl ?_
         refine k_quiet (c_void _ _) hs (.cons rfl .nil) rfl ?_
         rintro _ _ ⟨vb, rfl, _⟩ hs _
         refine s_pu (p_pickT rfl rfl) rfl ?_
         refine WL_th ⟨hs, _, ?_, Ext.cons rfl (ext_kd rfl rfl (ext_kd rfl rfl (ext_kd rfl rfl (ext_kd rfl rfl (ext_kd rfl rfl (ext_kd rfl rfl (ext_kd rfl rfl (ext_kd rfl rfl ext_kn))))))))⟩
         trivial
        ·
         refine g_skip rfl rfl rfl rfl rfl ?_
         refine g_skip rfl rfl rfl rfl rfl ?_
         refine s_pu (p_pickF rfl rfl) rfl ?_
         refine WL_th ⟨hs, _, ?_, Ext.cons rfl (ext_kd rfl rfl (ext_kd rfl rfl (ext_kd rfl rfl (ext_kd rfl rfl (ext_kd rfl rfl (ext_kd rfl rfl (ext_kd rfl rfl (ext_kd rfl rfl ext_kn))))))))⟩
         trivial
       ·
        intro w98 b98 hs hb98
        refine WL_forget (Ext.cd 0 rfl (Ext.cd 3 rfl (Ext.cd 6 rfl (Ext.cd 7 rfl (Ext.cd 10 rfl (Ext.cd 11 rfl (Ext.cd 12 rfl (Ext.cd 14 rfl (Ext.cd 98 rfl (Ext.nil _)))))))))) ?_
        show WL _ _ _ [] _ _ _
        refine WL_th ?_
        refine W_if rfl (fun h98 => ?_) (fun h98 => ?_)
        ·
         refine W_reg ?_
         refine s_pu (p_field rfl) rfl ?_
         refine k_st hs rfl rfl .head rfl rfl ?_
         intro _ hs
         refine WL_th ?_
         have hs := hs.front .t9
         have hs := hs.front .t9
         have hs := hs.front .t9
         have hs := hs.front .t9
         have hs := hs.front .t9
         have hs := hs.front .t9
         have hs := hs.front .t9
         have hs := hs.front .t9
         have hs := hs.front .t9
         have hs := hs.front .t9
         have hs := St.cut (G1 := [_, _, _, _, _, _, _, _, _, _]) hs
         have hs := hs.imp .head (pt_to (g := tc { tk with style := 2 }) (by repeat (first | exact below_zero | refine below_succ ?_ rfl)))
         exact ⟨{ tk with style := 2 }, ⟨rfl, rfl⟩, rfl, (Ext.cons rfl (Ext.cons rfl (Ext.cons rfl (Ext.cons rfl (Ext.cons rfl (Ext.cons rfl (Ext.cons rfl (Ext.cons rfl (Ext.nil _))))))))), hs⟩
        ·
         refine W_skip_th ?_
         have hs := hs.front .t9
         have hs := hs.front .t9
         have hs := hs.front .t9
         have hs := hs.front .t9
         have hs := hs.front .t9
         have hs := hs.front .t9
         have hs := hs.front .t9
         have hs := hs.front .t9
         have hs := hs.front .t9
         have hs := hs.front .t9
         have hs := St.cut (G1 := [_, _, _, _, _, _, _, _, _, _]) hs
         have hs := hs.imp .head (pt_to (g := tc tk) (by repeat (first | exact below_zero | refine below_succ ?_ rfl)))
         exact ⟨tk, ⟨rfl, rfl⟩, rfl, (Ext.cons rfl (Ext.cons rfl (Ext.cons rfl (Ext.cons rfl (Ext.cons rfl (Ext.cons rfl (Ext.cons rfl (Ext.cons rfl (Ext.nil _))))))))), hs⟩
      ·
       rintro e2 w2 ⟨tk2, hkd1, hkd2, hx, hs⟩
       refine W_forget hx ?_
       clear hx
       have hone2 : tk2.kids.oneCell' = true := by rw [hkd2]; exact (hs.now (R := fun w => RepT w (.mk tk kk)) .t3).kids.one
       refine W_reg ?_
       refine s_pu (p_field rfl) rfl ?_
       refine k_ld hs rfl .t1 rfl rfl ?_
       refine k_ldW hs rfl .head rfl ?_
       refine k_bs hs (.agg rfl .nil) rfl rfl rfl ?_
       intro b103 _ hs
       have hs := hs.front .t3
       refine k_app (n := ts.length) hs rfl rfl .head rfl (one_lay6 (tc_one hone2)) (by omega) (by omega) rfl ?_
       intro v104 _ hs
       have hs := hs.imp .head (rowT_snoc (r := .mk tk2 kk))
       refine s_pu (p_field rfl) rfl ?_
       refine k_st hs rfl rfl .t3 (row_one (hs.pick .head)) rfl ?_
       intro _ hs
       refine WL_nil ?_
       show W _ _ _ _ _ _
       refine W_reg ?_
       refine s_pu (p_move rfl) rfl ?_
       refine s_pu (p_move rfl) rfl ?_
       refine s_pu (p_addI rfl rfl ?_) rfl ?_
       ·
        (first | assumption | omega)
       refine s_pu (p_assign rfl) rfl ?_
       refine WL_th ?_
       have hs := hs.front .t10
       have hs := hs.front .t10
       have hs := hs.front .t10
       have hs := hs.front .t10
       have hs := hs.front .t10
       have hs := hs.front .t10
       have hs := hs.front .t10
       have hs := hs.front .t7
       have hs := hs.front .t10
       have hs := St.cut (G1 := [_, _, _, _, _, _, _, _, _]) hs
       have hs := hs.imp .head (pt_to (g := tc ⟨2, ovalue, oanchor, otag, st, v104⟩) (by repeat (first | exact below_zero | refine below_succ ?_ rfl)))
       have hs := hs.front .t2
       have hs := hs.hold_imp (R' := fun w => RepT w (.mk tk2 kk)) (fun w h => RepT.like (t := tk) h hkd2)
       have hs := hs.front .t3
       have hs := hs.hold_and
       have hs := hs.hold_imp (R' := fun w => ∀ r ∈ ts ++ [TT.mk tk2 kk], RepT w r) (fun w h => allT_snoc h.1 h.2)
       have hs := hs.front .t2
       have hs := hs.front .t2
       refine ⟨(ts ++ [TT.mk tk2 kk], v104, left2, a2, ns2), (Ext.cons rfl (Ext.cons rfl (Ext.cons rfl (Ext.cons rfl (Ext.cons rfl (Ext.cons rfl (Ext.cons (by show some (Value.int .i64 ((ts.length : Int) + 1)) = _; simp) (Ext.nil _)))))))), ⟨by simp; omega, ?_, allT_snoc hxf (hfit.like hkd1.1 hkd1.2), ?_, by simp only; omega, ?_, hs⟩, by simp; omega⟩
       ·
        simp only [List.length_append, List.length_singleton, tsizes_app, tsizes, Nat.add_mul, Nat.one_mul]; simp only [TT.size] at hsz ⊢; omega
       ·
        simp only [List.length_append, List.length_singleton, Nat.add_mul, Nat.one_mul]; omega
       ·
        simp only [List.length_append, List.length_singleton, Nat.add_mul, Nat.one_mul]; omega
    ·
     refine W_exit ?_
     show W _ _ _ _ _ _
     refine W_join (fun e' w' => ∃ (st2 : Int), Ext e' (upd (upd emp 10 (.pointer (some ⟨b10, 0, none⟩))) 6 (.pointer (some ⟨b6, 0, none⟩))) ∧ St wI S w' [pt b6 24 6 (tc ⟨2, ovalue, oanchor, otag, st2, v1⟩), rowT v1 ts, hold (fun w => ∀ r ∈ ts, RepT w r), pt fb 56 3 (fC left1 a1), rowL a1 9 (ns1.map Value.string), hold R, pt b7 24 6 (tc ⟨kind, value, anchor, tag, style, .slice ad kids.length cap⟩), pt b10 24 6 z10]) ?_ ?_
     ·
      refine W_sr ?_
      refine s_pu (p_field rfl) rfl ?_
      refine k_ld hs rfl .head rfl rfl ?_
      obtain ⟨ad1, cap1, hv1⟩ := (show ∃ ad cap, v1 = .slice ad ts.length cap by obtain ⟨S1, h1⟩ := hs.pick .t1; exact rowT_val h1)
      refine s_pu (p_lenL (ad := ad1) (l := ts.length) (c := cap1) (by show some v1 = _; rw [hv1])) rfl ?_
      refine s_pu (p_eqI rfl rfl) rfl ?_
      refine WL_th ?_
      refine W_if rfl (fun h109 => ?_) (fun h109 => ?_)
      ·
       refine W_reg ?_
       refine s_pu (p_field rfl) rfl ?_
       refine k_st hs rfl rfl .head rfl rfl ?_
       intro _ hs
       refine WL_th ?_
       have hs := hs.front .t7
       have hs := hs.front .t7
       have hs := hs.front .t7
       have hs := hs.front .t7
       have hs := hs.front .t7
       have hs := hs.front .t7
       have hs := hs.front .t7
       have hs := hs.front .t7
       have hs := St.cut (G1 := [_, _, _, _, _, _, _, _]) hs
       have hs := hs.imp .head (pt_to (g := tc ⟨2, ovalue, oanchor, otag, 2, v1⟩) (by repeat (first | exact below_zero | refine below_succ ?_ rfl)))
       exact ⟨2, (Ext.cons rfl (Ext.cons rfl (Ext.nil _))), hs⟩
      ·
       refine W_skip_th ?_
       have hs := hs.front .t7
       have hs := hs.front .t7
       have hs := hs.front .t7
       have hs := hs.front .t7
       have hs := hs.front .t7
       have hs := hs.front .t7
       have hs := hs.front .t7
       have hs := hs.front .t7
       have hs := St.cut (G1 := [_, _, _, _, _, _, _, _]) hs
       exact ⟨st, (Ext.cons rfl (Ext.cons rfl (Ext.nil _))), hs⟩
     ·
      rintro e3 w3 ⟨st2, hx, hs⟩
      refine W_forget hx ?_
      clear hx
      refine W_join (fun e' w' => ∃ (o3 : TRec), o3.kind = 2 ∧ o3.anchor = oanchor ∧ o3.kids = v1 ∧ Ext e' (upd (upd emp 10 (.pointer (some ⟨b10, 0, none⟩))) 6 (.pointer (some ⟨b6, 0, none⟩))) ∧ St wI S w' [pt b6 24 6 (tc o3), rowT v1 ts, hold (fun w => ∀ r ∈ ts, RepT w r), pt fb 56 3 (fC left1 a1), rowL a1 9 (ns1.map Value.string), hold R, pt b7 24 6 (tc ⟨kind, value, anchor, tag, style, .slice ad kids.length cap⟩), pt b10 24 6 z10]) ?_ ?_
      ·
       refine W_sr ?_
       refine s_pu (p_field rfl) rfl ?_
       refine k_ld hs rfl .head rfl rfl ?_
       refine s_pu (p_eqI rfl rfl) rfl ?_
       refine WL_th ?_
       refine W_if rfl (fun h113 => ?_) (fun h113 => ?_)
       ·
        refine W_reg ?_
        refine s_pu (p_field rfl) rfl ?_
        refine k_st hs rfl rfl .head rfl rfl ?_
        intro _ hs
        refine WL_th ?_
        have hs := hs.front .t7
        have hs := hs.front .t7
        have hs := hs.front .t7
        have hs := hs.front .t7
        have hs := hs.front .t7
        have hs := hs.front .t7
        have hs := hs.front .t7
        have hs := hs.front .t7
        have hs := St.cut (G1 := [_, _, _, _, _, _, _, _]) hs
        have hs := hs.imp .head (pt_to (g := tc ⟨2, ovalue, oanchor, ⟨#[]⟩, st2, v1⟩) (by repeat (first | exact below_zero | refine below_succ ?_ rfl)))
        exact ⟨_, rfl, rfl, rfl, (Ext.cons rfl (Ext.cons rfl (Ext.nil _))), hs⟩
       ·
        refine W_skip_th ?_
        have hs := hs.front .t7
        have hs := hs.front .t7
        have hs := hs.front .t7
        have hs := hs.front .t7
        have hs := hs.front .t7
        have hs := hs.front .t7
        have hs := hs.front .t7
        have hs := hs.front .t7
        have hs := St.cut (G1 := [_, _, _, _, _, _, _, _]) hs
        exact ⟨_, rfl, rfl, rfl, (Ext.cons rfl (Ext.cons rfl (Ext.nil _))), hs⟩
      ·
       rintro e4 w4 ⟨o3, ho1, ho2, ho3, hx, hs⟩
       refine W_forget hx ?_
       clear hx
       refine W_sr ?_
       refine k_ldW hs rfl .head rfl ?_
       refine k_stW hs rfl rfl .t7 (tc_one (by rw [ho3]; exact row_one (hs.pick .t1))) ?_
       intro _ hs
       refine WL_th ?_
       refine W_ret ?_
       refine ret_cell (fn := Tryz.f28) (n := 6) rfl rfl hs .t7 ?_
       have hs := hs.front .t2
       have hs := hs.front .t2
       have hs := MW.St.seal_trees (t := o3) (rs := ts) (v := v1) hs ho3
       have hs := hs.front .t4
       have hs := hs.front .t1
       have hs := hs.front .t4
       have hs := hs.front .t4
       have hs := St.cut (G1 := [_, _, _, _]) hs
       exact hs.spec ⟨.mk o3 ts, left1, a1, ns1, rfl, .list ho1 hxf, ho1, ho2, by simp only [TT.size]; omega, by omega, hxl2, by omega, rfl⟩
end Go.Proofs.YtmalghopogngoaaGreatDoor
