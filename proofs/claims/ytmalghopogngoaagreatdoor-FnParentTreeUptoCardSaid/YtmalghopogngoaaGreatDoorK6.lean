/- A part of the proof that the parent of a node below the root is the node right above it (laws.FnParentTree), for all inputs of bulk at most 1048576 and the listed variables as the text lays them: part 6 of 16. -/
import Derived.Test.YtmalghopogngoaaGreatDoorK5
import Derived.Test.YtmalghopogngoaaGreatDoorRows
import Derived.OpenShut
import Derived.Deep.Slices
set_option linter.unusedVariables false
set_option linter.unusedSimpArgs false
set_option maxRecDepth 4000
namespace Go.Proofs.YtmalghopogngoaaGreatDoor
open Go Go.RowKit MW
theorem one_le_szS : ∀ d, 1 ≤ szS d
 | 0 => Nat.le_refl _
 | d + 1 => by simp only [szS]; omega
theorem lay6_two {z : Nat → Value} (r s : TT) : ∀ j, j < 6 → lay (lay z ((0 + 1) * 6) 6 (tc s.t)) (0 * 6) 6 (tc r.t) (0 * 6 + j) = tc r.t j ∧ lay (lay z ((0 + 1) * 6) 6 (tc s.t)) (0 * 6) 6 (tc r.t) (1 * 6 + j) = tc s.t j := fun j hj => by
 constructor
 ·
  simp only [Nat.zero_mul, Nat.zero_add]
  exact lay_all j hj
 ·
  unfold lay
  have e1 : (Nat.ble (0 * 6) (1 * 6 + j) && Nat.blt (1 * 6 + j) (0 * 6 + 6)) = false := by
   cases hb : (Nat.ble (0 * 6) (1 * 6 + j) && Nat.blt (1 * 6 + j) (0 * 6 + 6)) with
   | false => rfl
   | true =>
    rw [Bool.and_eq_true] at hb
    have h2 : 1 * 6 + j + 1 ≤ 0 * 6 + 6 := Nat.le_of_ble_eq_true hb.2
    omega
  have e2 : Nat.ble ((0 + 1) * 6) (1 * 6 + j) = true := Nat.ble_eq_true_of_le (by omega)
  have e3 : Nat.blt (1 * 6 + j) ((0 + 1) * 6 + 6) = true := Nat.ble_eq_true_of_le (by omega)
  rw [e1, e2, e3]
  show tc s.t (1 * 6 + j - (0 + 1) * 6) = tc s.t j
  congr 1
  omega
theorem recs_two6 {z : Nat → Value} (r s : TT) : ∀ i, i < 2 * 6 → lay (lay z ((0 + 1) * 6) 6 (tc s.t)) (0 * 6) 6 (tc r.t) i = recs 6 (fun r : TT => tc r.t) [r, s] i :=
 recs_ext (by omega) fun i j hi hj => by
  have hi' : i = 0 ∨ i = 1 := by omega
  rcases hi' with rfl | rfl
  ·
   rw [(lay6_two r s j hj).1, recs_at (a := r) rfl hj]
  ·
   rw [(lay6_two r s j hj).2, recs_at (a := s) rfl hj]
theorem one_two6 {r s : TT} (hr : r.t.kids.oneCell' = true) (hs : s.t.kids.oneCell' = true) : ∀ i, i < 2 * 6 → (recs 6 (fun r : TT => tc r.t) [r, s] i).oneCell' = true := fun i hi => by
 have h0 : i = (i / 6) * 6 + i % 6 := by omega
 have h1 : i / 6 = 0 ∨ i / 6 = 1 := by omega
 rw [h0]
 rcases h1 with h | h <;> rw [h]
 ·
  rw [recs_at (a := r) rfl (by omega)]; exact tc_one hr _ (by omega)
 ·
  rw [recs_at (a := s) rfl (by omega)]; exact tc_one hs _ (by omega)
theorem rowT_snoc2 {v : Value} {rs : List TT} {r s : TT} (w : World) (S : Foot) (h : (row v 24 6 (rs.length + 2) (cat (recs 6 (fun r : TT => tc r.t) rs) (rs.length * 6) (recs 6 (fun r : TT => tc r.t) [r, s]))).on w S) : (rowT v (rs ++ [r, s])).on w S := by
 unfold rowT
 rw [show (rs ++ [r, s]).length = rs.length + 2 by simp]
 refine row_congr (recs_ext (by omega) fun i j hi hj => ?_) h
 by_cases hlt : i < rs.length
 ·
  rw [cat_lt (by omega), recs_at (List.getElem?_eq_getElem hlt) hj, recs_at (a := rs[i]) (by rw [List.getElem?_append_left hlt, List.getElem?_eq_getElem hlt]) hj]
 ·
  have hi' : i = rs.length + 0 ∨ i = rs.length + 1 := by omega
  rcases hi' with rfl | rfl
  ·
   rw [cat_ge (by omega), show (rs.length + 0) * 6 + j - rs.length * 6 = 0 * 6 + j by omega, recs_at (a := r) rfl hj, recs_at (a := r) (by rw [List.getElem?_append_right (by omega)]; simp) hj]
  ·
   rw [cat_ge (by omega), show (rs.length + 1) * 6 + j - rs.length * 6 = 1 * 6 + j by omega, recs_at (a := s) rfl hj, recs_at (a := s) (by rw [List.getElem?_append_right (by omega)]; simp) hj]
theorem keys_snoc2 {rs : List TT} {r s : TT} {q : Nat} (hq : rs.length = 2 * q) (h : ∀ i k, rs[2 * i]? = some k → IsKey k.t) (hr : IsKey r.t) : ∀ i k, (rs ++ [r, s])[2 * i]? = some k → IsKey k.t := by
 intro i k hk
 rcases Nat.lt_or_ge (2 * i) rs.length with hlt | hge
 ·
  rw [List.getElem?_append_left hlt] at hk; exact h i k hk
 ·
  rw [List.getElem?_append_right hge] at hk
  have h1 : 2 * i - rs.length < 2 := by
   have := (List.getElem?_eq_some_iff.1 hk).1
   simpa using this
  have h2 : 2 * i - rs.length = 0 := by omega
  rw [h2] at hk
  injection hk with hk
  subst hk
  exact hr
theorem c_fpairs (d : Nat) (hT : TreeOK d) (o : TRec) (hok : o.kind = 3) (hoz : o.kids = .slice none 0 0) (tt : TT) (R : World → Prop) (hR : ∀ w, R w → RepT w tt) (hS : Small tt) (fb : Nat) (left : Int) (a : Value) (ns : List ByteArray) (level : Int) (flow : Bool) (hl : level + 1 = 5 - (d : Int)) (hl0 : 0 ≤ level) (h1 : left - 6 * szS d ≥ -1000000) (h2 : left ≤ 1000) (h3 : ns.length + 6 * szS d ≤ 1000000) :
  MW.Spec Tryz.prog 28 [.pointer (some ⟨fb, 0, none⟩), .agg (mkA 6 (tc o)), .agg (mkA 6 (tc tt.t)), .int .i64 level, .bool flow].toArray [pt fb 56 3 (fC left a), rowL a 9 (ns.map Value.string), hold R] (CollR o d fb left ns.length R) := by
 intro wI S hsat
 have hs := St.start hsat
 obtain ⟨⟨kind, value, anchor, tag, style, kv⟩, kids⟩ := tt
 obtain ⟨okind, ovalue, oanchor, otag, ostyle, okv⟩ := o
 obtain rfl : okind = 3 := hok
 obtain rfl : okv = .slice none 0 0 := hoz
 obtain ⟨ad, cap, b0, o0, hv, hall⟩ := (hR _ (hs.now .t2)).kids.out
 obtain rfl : kv = .slice ad kids.length cap := hv
 have hSk : ∀ k ∈ kids, Small k := by cases hS with | mk s1 s2 s3 s4 s5 => exact s5
 have hkl : kids.length ≤ 100000000 := by cases hS with | mk s1 s2 s3 s4 s5 => exact s4
 have m1 := md_lt (x := style) (n := 2) (by decide)
 have m2 := md_ge (x := style) (n := 2) (by decide)
 have m3 := md_lt (x := md style 2 - 1) (n := 2) (by decide)
 have m4 := md_ge (x := md style 2 - 1) (n := 2) (by decide)
 refine calls_W (args := [_, _, _, _, _]) Tryz.func28 rfl Tryz.ntmps28 rfl ?_
 refine W_sr ?_
 refine k_box hs rfl rfl ?_
 intro b6 _ hs
 refine k_box hs rfl rfl ?_
 intro b7 _ hs
 refine k_alloc hs rfl ?_
 intro b10 _ hs
 refine WL_th ?_
 refine W_sr ?_
 refine s_pu (p_field rfl) rfl ?_
 refine k_ld hs rfl .t1 rfl rfl ?_
 refine k_quiet (c_modulo _ 2 (by decide) (by decide) _) hs (.cons rfl (.cons rfl .nil)) rfl ?_
 rintro _ _ rfl hs _
 refine s_pu (p_subI rfl rfl ?_) rfl ?_
 ·
  (show _ ≤ md style 2 - 1 ∧ md style 2 - 1 ≤ _; omega)
 refine k_quiet (c_modulo _ 2 (by decide) (by decide) _) hs (.cons rfl (.cons rfl .nil)) rfl ?_
 rintro _ _ rfl hs _
 refine s_pu (p_addI rfl rfl ?_) rfl ?_
 ·
  (show _ ≤ 1 + md (md style 2 - 1) 2 ∧ 1 + md (md style 2 - 1) 2 ≤ _; omega)
 refine s_pu (p_field rfl) rfl ?_
 refine k_st hs rfl rfl .t2 rfl rfl ?_
 intro _ hs
 refine WL_th ?_
 refine W_join (fun e' w' => ∃ (st : Int) (z10 : Nat → Value), Ext e' (upd (upd (upd (upd (upd emp 10 (.pointer (some ⟨b10, 0, none⟩))) 7 (.pointer (some ⟨b7, 0, none⟩))) 6 (.pointer (some ⟨b6, 0, none⟩))) 3 (.int .i64 level)) 0 (.pointer (some ⟨fb, 0, none⟩))) ∧ St wI S w' [pt b6 24 6 (tc ⟨3, ovalue, oanchor, otag, st, .slice none 0 0⟩), pt b7 24 6 (tc ⟨kind, value, anchor, tag, style, .slice ad kids.length cap⟩), pt b10 24 6 z10, pt fb 56 3 (fC left a), rowL a 9 (ns.map Value.string), hold R]) ?_ ?_
 ·
  refine W_sr ?_
  refine s_pu (p_move rfl) rfl ?_
  refine WL_th ?_
  refine W_if rfl (fun ht22 => ?_) (fun ht22 => ?_)
  ·
   refine W_reg ?_
   refine s_pu (p_field rfl) rfl ?_
   refine k_st hs rfl rfl .t2 rfl rfl ?_
   intro _ hs
   refine WL_th ?_
   have hs := hs.front .t5
   have hs := hs.front .t5
   have hs := hs.front .t5
   have hs := hs.front .t3
   have hs := hs.front .t4
   have hs := hs.front .t5
   have hs := St.cut (G1 := [_, _, _, _, _, _]) hs
   have hs := hs.imp .head (pt_to (g := tc ⟨3, ovalue, oanchor, otag, 2, .slice none 0 0⟩) (by repeat (first | exact below_zero | refine below_succ ?_ rfl)))
   exact ⟨_, _, (Ext.cons rfl (Ext.cons rfl (Ext.cons rfl (Ext.cons rfl (Ext.cons rfl (Ext.nil _)))))), hs⟩
  ·
   refine W_skip_th ?_
   have hs := hs.front .t5
   have hs := hs.front .t5
   have hs := hs.front .t5
   have hs := hs.front .t3
   have hs := hs.front .t4
   have hs := hs.front .t5
   have hs := St.cut (G1 := [_, _, _, _, _, _]) hs
   have hs := hs.imp .head (pt_to (g := tc ⟨3, ovalue, oanchor, otag, (1 + md (md style 2 - 1) 2), .slice none 0 0⟩) (by repeat (first | exact below_zero | refine below_succ ?_ rfl)))
   exact ⟨_, _, (Ext.cons rfl (Ext.cons rfl (Ext.cons rfl (Ext.cons rfl (Ext.cons rfl (Ext.nil _)))))), hs⟩
 ·
  rintro e1 w1 ⟨st, z10, hx, hs⟩
  refine W_forget hx ?_
  clear hx
  refine W_sr ?_
  refine s_pu (p_field rfl) rfl ?_
  refine k_ld hs rfl .head rfl rfl ?_
  refine s_pu (p_subI rfl rfl ?_) rfl ?_
  ·
   (show _ ≤ (3:Int) - 1 ∧ (3:Int) - 1 ≤ _; decide)
  refine s_pu (p_assign rfl) rfl ?_
  refine WL_th ?_
  refine W_seq ?_
  refine W_sr ?_
  refine s_pu (p_assign rfl) rfl ?_
  refine WL_th ?_
  refine W_block ?_
  have hs := (hs.rowNil 24 6 (recs 6 (fun r : TT => tc r.t) [])).holdT (R := fun w => ∀ r ∈ ([] : List TT), RepT w r) (fun w r h => by simp at h)
  have hs := hs.front .t4
  have hs := hs.front .t4
  have hs := hs.front .t7
  have hs := hs.front .t7
  have hs := hs.front .t7
  have hs := hs.front .t5
  have hs := hs.front .t6
  have hs := hs.front .t7
  have hs := St.cut (G1 := [_, _, _, _, _, _, _, _]) hs
  refine W_loop (α := List TT × Value × Int × Value × List ByteArray) (fun x => (upd (upd (upd (upd (upd (upd (upd emp 12 (.int .i64 x.1.length)) 11 (.int .i64 2)) 10 (.pointer (some ⟨b10, 0, none⟩))) 7 (.pointer (some ⟨b7, 0, none⟩))) 6 (.pointer (some ⟨b6, 0, none⟩))) 3 (.int .i64 level)) 0 (.pointer (some ⟨fb, 0, none⟩)))) (fun x w => x.1.length ≤ 6 ∧ tsizes x.1 ≤ x.1.length * szS d ∧ (∀ r ∈ x.1, FitT r) ∧ (∃ q, x.1.length = 2 * q) ∧ (∀ i k, x.1[2 * i]? = some k → IsKey k.t) ∧ left - ((x.1.length * szS d : Nat) : Int) ≤ x.2.2.1 ∧ x.2.2.1 ≤ left ∧ x.2.2.2.2.length ≤ ns.length + x.1.length * szS d ∧ St wI S w [pt b6 24 6 (tc ⟨3, ovalue, oanchor, otag, st, x.2.1⟩), rowT x.2.1 x.1, hold (fun w => ∀ r ∈ x.1, RepT w r), pt fb 56 3 (fC x.2.2.1 x.2.2.2.1), rowL x.2.2.2.1 9 (x.2.2.2.2.map Value.string), hold R, pt b7 24 6 (tc ⟨kind, value, anchor, tag, style, .slice ad kids.length cap⟩), pt b10 24 6 z10]) (fun x => 6 - x.1.length) ([], .slice none 0 0, left, a, ns) (Ext.cons rfl (Ext.cons rfl (Ext.cons rfl (Ext.cons rfl (Ext.cons rfl (Ext.cons rfl (Ext.cons rfl (Ext.nil _)))))))) ⟨by simp, by simp [tsizes], by simp, ⟨0, rfl⟩, by simp, by simp, by simp, by simp, hs⟩ (fun x w hx => ?_)
  obtain ⟨hx6, hxs, hxf, ⟨xq, hxq⟩, hxk, hxl, hxl2, hxn, hs⟩ := hx
  obtain ⟨ts, v1, left1, a1, ns1⟩ := x
  simp only at hx6 hxs hxf hxq hxk hxl hxl2 hxn hs
  have hM := Nat.mul_le_mul_right (szS d) hx6
  refine W_seq ?_
  refine W_sr ?_
  refine s_pu (p_move rfl) rfl ?_
  refine s_pu (p_move rfl) rfl ?_
  refine s_pu (p_addI rfl rfl ?_) rfl ?_
  ·
   (simp; omega)
  refine s_pu (p_field rfl) rfl ?_
  refine k_ld hs rfl .t6 rfl rfl ?_
  refine s_pu (p_lenL rfl) rfl ?_
  refine s_pu (p_leI rfl rfl) rfl ?_
  refine s_pu (p_move rfl) rfl ?_
  refine WL_cutb 3 37 [0, 3, 6, 7, 10, 11, 12] (fun b => b = true → ts.length + 2 ≤ kids.length ∧ ts.length < 6) ?_ ?_
  ·
   refine s_bool 34 rfl (fun hb34 => ?_) (fun hb34 => ?_)
   ·
    refine g_take rfl rfl rfl ?_
    refine s_pu (p_move rfl) rfl ?_
    refine g_take rfl rfl rfl ?_
    refine s_pu (p_ltI rfl rfl) rfl ?_
    refine s_pu (p_pickT rfl rfl) rfl ?_
    refine WL_th ⟨rfl, _, ?_, Ext.cons rfl (ext_kd rfl rfl (ext_kd rfl rfl (ext_kd rfl rfl (ext_kd rfl rfl (ext_kd rfl rfl (ext_kd rfl rfl (ext_kd rfl rfl ext_kn)))))))⟩
    exact fun h => ⟨by have := of_decide_eq_true hb34; dsimp only at this; omega, by have := of_decide_eq_true h; dsimp only at this; omega⟩
   ·
    refine g_skip rfl rfl rfl rfl rfl ?_
    refine g_skip rfl rfl rfl rfl rfl ?_
    refine s_pu (p_pickF rfl rfl) rfl ?_
    refine WL_th ⟨rfl, _, ?_, Ext.cons rfl (ext_kd rfl rfl (ext_kd rfl rfl (ext_kd rfl rfl (ext_kd rfl rfl (ext_kd rfl rfl (ext_kd rfl rfl (ext_kd rfl rfl ext_kn)))))))⟩
    exact fun h => by cases h
  ·
   intro b37 hb37
   refine WL_forget (Ext.cd 0 rfl (Ext.cd 3 rfl (Ext.cd 6 rfl (Ext.cd 7 rfl (Ext.cd 10 rfl (Ext.cd 11 rfl (Ext.cd 12 rfl (Ext.cd 37 rfl (Ext.nil _))))))))) ?_
   show WL _ _ _ (_ :: _) _ _ _
   refine s_pu (p_move rfl) rfl ?_
   refine WL_cutb 7 45 [0, 3, 6, 7, 10, 11, 12] (fun b => b = true → ts.length + 2 ≤ kids.length ∧ ts.length < 6) ?_ ?_
   ·
    refine s_bool 38 rfl (fun hb38 => ?_) (fun hb38 => ?_)
    ·
     refine g_take rfl rfl rfl ?_
     refine s_pu (p_move rfl) rfl ?_
     refine g_take rfl rfl rfl ?_
     refine s_pu (p_nilCheck rfl) rfl ?_
     refine g_take rfl rfl rfl ?_
     refine s_pu (p_field rfl) rfl ?_
     refine g_take rfl rfl rfl ?_
     refine k_ld hs rfl .t3 rfl rfl ?_
     refine g_take rfl rfl rfl ?_
     refine s_pu (p_move rfl) rfl ?_
     refine g_take rfl rfl rfl ?_
     refine s_pu (p_geI rfl rfl) rfl ?_
     refine s_pu (p_pickT rfl rfl) rfl ?_
     refine WL_th ⟨rfl, _, ?_, Ext.cons rfl (ext_kd rfl rfl (ext_kd rfl rfl (ext_kd rfl rfl (ext_kd rfl rfl (ext_kd rfl rfl (ext_kd rfl rfl (ext_kd rfl rfl ext_kn)))))))⟩
     exact fun _ => hb37 hb38
    ·
     refine g_skip rfl rfl rfl rfl rfl ?_
     refine g_skip rfl rfl rfl rfl rfl ?_
     refine g_skip rfl rfl rfl rfl rfl ?_
     refine g_skip rfl rfl rfl rfl rfl ?_
     refine g_skip rfl rfl rfl rfl rfl ?_
     refine g_skip rfl rfl rfl rfl rfl ?_
     refine s_pu (p_pickF rfl rfl) rfl ?_
     refine WL_th ⟨rfl, _, ?_, Ext.cons rfl (ext_kd rfl rfl (ext_kd rfl rfl (ext_kd rfl rfl (ext_kd rfl rfl (ext_kd rfl rfl (ext_kd rfl rfl (ext_kd rfl rfl ext_kn)))))))⟩
     exact fun h => by cases h
   ·
    intro b45 hb45
    refine WL_forget (Ext.cd 0 rfl (Ext.cd 3 rfl (Ext.cd 6 rfl (Ext.cd 7 rfl (Ext.cd 10 rfl (Ext.cd 11 rfl (Ext.cd 12 rfl (Ext.cd 45 rfl (Ext.nil _))))))))) ?_
    show WL _ _ _ [] _ _ _
    refine WL_th ?_
    refine W_if rfl (fun h45 => ?_) (fun h45 => ?_)
    ·
     obtain ⟨hlt, hlt6⟩ := hb45 h45
     obtain ⟨k, hki⟩ : ∃ k, kids[ts.length]? = some k := ⟨_, List.getElem?_eq_getElem (by omega)⟩
     have hkm := List.mem_of_getElem? hki
     have hM2 : ts.length * szS d + 2 * szS d ≤ 6 * szS d := by have := Nat.mul_le_mul_right (szS d) (show ts.length + 2 ≤ 6 by omega); rwa [Nat.add_mul] at this
     obtain ⟨j, hji⟩ : ∃ j, kids[ts.length + 1]? = some j := ⟨_, List.getElem?_eq_getElem (by omega)⟩
     have hjm := List.mem_of_getElem? hji
     have hk4 : ts.length ≤ 4 := by omega
     obtain ⟨hb0, _⟩ := hall _ (hR _ (hs.now .t5)).kids _ _ hki
     refine W_skip_th ?_
     refine W_seq ?_
     refine W_block ?_
     refine W_seq ?_
     refine W_sr ?_
     refine s_pu (p_field rfl) rfl ?_
     refine k_ld hs rfl .head rfl rfl ?_
     refine s_pu (p_eqI rfl rfl) rfl ?_
     refine WL_th ?_
     refine W_true rfl ?_
     refine W_seq ?_
     refine h_start (S := fun w => w.heap[b7]? = some (.cells (mkA 6 (tc ⟨kind, value, anchor, tag, style, .slice ad kids.length cap⟩)) 24 (0, 0)) ∧ w.heap[b6]? = some (.cells (mkA 6 (tc ⟨3, ovalue, oanchor, otag, st, v1⟩)) 24 (0, 0)) ∧ R w) (ls := #[false, false, false, false, false, false, false, false, false, false, false]) (n := 11) (by kernel_rfl) (by kernel_rfl) ?_
     have hs := hs.drew
     refine h_pu 0 rfl (ls' := #[true, false, false, false, false, false, false, false, false, false, false]) (by kernel_rfl) (fun _ _ _ h => h) rfl ⟨hs.cell .t6, hs.cell .head, hs.now .t5⟩ (p_move rfl) ?_
     refine h_pu 1 rfl (ls' := #[true, true, false, false, false, false, false, false, false, false, false]) (by kernel_rfl) (fun _ _ _ h => h) rfl ⟨hs.cell .t6, hs.cell .head, hs.now .t5⟩ (p_field rfl) ?_
     refine h_take 2 rfl (ls' := #[true, true, true, false, false, false, false, false, false, false, false]) (by kernel_rfl) (fun _ _ _ h => h) rfl ⟨hs.cell .t6, hs.cell .head, hs.now .t5⟩ (fun w hw => q_ld rfl hw.1 rfl) ?_
     refine h_pu 3 rfl (ls' := #[true, true, true, true, false, false, false, false, false, false, false]) (by kernel_rfl) (fun _ _ _ h => h) rfl ⟨hs.cell .t6, hs.cell .head, hs.now .t5⟩ (p_move rfl) ?_
     refine h_pu 4 rfl (ls' := #[true, true, true, true, true, false, false, false, false, false, false]) (by kernel_rfl) (fun _ _ _ h => h) rfl ⟨hs.cell .t6, hs.cell .head, hs.now .t5⟩ (p_elem (by show some (Value.slice ad kids.length cap) = _; rw [hb0]) rfl (by dsimp only; omega) (by dsimp only; omega)) ?_
     refine h_take 5 rfl (ls' := #[true, true, true, true, true, true, false, false, false, false, false]) (by kernel_rfl) (fun _ _ _ h => h) rfl ⟨hs.cell .t6, hs.cell .head, hs.now .t5⟩ (fun w hw => m_loadA (n := 6) (g := tc k.t) rfl (by rw [Int.toNat_natCast]; exact (hall _ (hR _ hw.2.2).kids _ _ hki).2)) ?_
     refine h_take 6 rfl (ls' := #[true, true, true, true, true, true, true, false, false, false, false]) (by kernel_rfl) (fun _ _ _ h => h) rfl ⟨hs.cell .t6, hs.cell .head, hs.now .t5⟩ (fun w hw => q_ldW rfl hw.2.1) ?_
     refine h_pu 7 rfl (ls' := #[true, true, true, true, true, true, true, true, false, false, false]) (by kernel_rfl) (fun _ _ _ h => h) rfl ⟨hs.cell .t6, hs.cell .head, hs.now .t5⟩ (p_move rfl) ?_
     refine h_two 8 9 rfl rfl (ls' := #[true, true, true, true, true, true, true, true, true, false, false]) (ls'' := #[true, true, true, true, true, true, true, true, false, true, false]) (by kernel_rfl) ?_ ?_
     ·
      have hs := hs.front .t5
      have hs := hs.front .t2
      have hs := hs.front .t5
      have hs := hs.front .t5
      refine k_spec [pt fb 56 3 (fC left1 a1), rowL a1 9 (ns1.map Value.string), rowT v1 ts, hold R] (c_key d hT k R (fun w h => (hR w h).all k hkm) (hSk _ hkm) ⟨3, ovalue, oanchor, otag, st, v1⟩ ts hk4 fb left1 a1 ns1 level (by omega) (by omega) (by omega) (by omega) (by omega)) hs (.cons rfl (.cons rfl (.cons rfl (.cons rfl .nil)))) rfl ?_
      rintro _ _ _ ⟨tk, left2, a2, ns2, rfl, hkey, hkz, hkv, hl2, hl3, hn2, rfl⟩ hs
      refine WL_th ⟨⟨hs.cell .t6, hs.cell .t4, hs.now .t3⟩, ?_⟩
      refine h_one 9 rfl (ls' := #[true, true, true, true, true, true, true, true, true, true, false]) (by kernel_rfl) ?_
      refine k_alloc hs rfl ?_
      intro b13 _ hs
      refine WL_th ⟨⟨hs.cell .t7, hs.cell .t5, hs.now .t4⟩, ?_⟩
      refine h_one 10 rfl (ls' := #[true, true, true, true, true, true, true, true, true, true, true]) (by kernel_rfl) ?_
      refine k_stW hs rfl rfl .head (tc_one (by rw [hkz]; rfl)) ?_
      intro _ hs
      have hs := hs.imp .head (pt_to (g := tc tk) (by repeat (first | exact below_zero | refine below_succ ?_ rfl)))
      refine WL_th ⟨⟨hs.cell .t7, hs.cell .t5, hs.now .t4⟩, ?_⟩
      refine h_done (by kernel_rfl) ?_
      show W _ _ _ _ _ _
      refine W_forget (Ext.cd 0 rfl (Ext.cd 3 rfl (Ext.cd 6 rfl (Ext.cd 7 rfl (Ext.cd 10 rfl (Ext.cd 11 rfl (Ext.cd 12 rfl (Ext.cd 13 rfl (Ext.nil _))))))))) ?_
      refine W_seq ?_
      refine h_start (S := fun w => w.heap[b7]? = some (.cells (mkA 6 (tc ⟨kind, value, anchor, tag, style, .slice ad kids.length cap⟩)) 24 (0, 0)) ∧ w.heap[b13]? = some (.cells (mkA 6 (tc tk)) 24 (0, 0)) ∧ R w ∧ w.cell? ⟨b6, 4, none⟩ = some (Value.int .i64 st)) (ls := #[false, false, false, false, false, false, false, false, false, false, false, false, false, false, false, false, false, false, false, false]) (n := 20) (by kernel_rfl) (by kernel_rfl) ?_
      have hs := hs.drew
      refine h_pu 0 rfl (ls' := #[true, false, false, false, false, false, false, false, false, false, false, false, false, false, false, false, false, false, false, false]) (by kernel_rfl) (fun _ _ _ h => h) rfl ⟨hs.cell .t7, hs.cell .head, hs.now .t4, pt_cell (hs.cell .t5) 4 (by decide)⟩ (p_field rfl) ?_
      refine h_take 2 rfl (ls' := #[true, false, true, false, false, false, false, false, false, false, false, false, false, false, false, false, false, false, false, false]) (by kernel_rfl) (fun _ _ _ h => h) rfl ⟨hs.cell .t7, hs.cell .head, hs.now .t4, pt_cell (hs.cell .t5) 4 (by decide)⟩ (fun w hw => q_ldW rfl hw.2.1) ?_
      refine h_pu 3 rfl (ls' := #[true, false, true, true, false, false, false, false, false, false, false, false, false, false, false, false, false, false, false, false]) (by kernel_rfl) (fun _ _ _ h => h) rfl ⟨hs.cell .t7, hs.cell .head, hs.now .t4, pt_cell (hs.cell .t5) 4 (by decide)⟩ (p_move rfl) ?_
      refine h_pu 4 rfl (ls' := #[true, false, true, true, true, false, false, false, false, false, false, false, false, false, false, false, false, false, false, false]) (by kernel_rfl) (fun _ _ _ h => h) rfl ⟨hs.cell .t7, hs.cell .head, hs.now .t4, pt_cell (hs.cell .t5) 4 (by decide)⟩ (p_field rfl) ?_
      refine h_take 5 rfl (ls' := #[true, false, true, true, true, true, false, false, false, false, false, false, false, false, false, false, false, false, false, false]) (by kernel_rfl) (fun _ _ _ h => h) rfl ⟨hs.cell .t7, hs.cell .head, hs.now .t4, pt_cell (hs.cell .t5) 4 (by decide)⟩ (fun w hw => q_ld rfl hw.1 rfl) ?_
      refine h_pu 6 rfl (ls' := #[true, false, true, true, true, true, true, false, false, false, false, false, false, false, false, false, false, false, false, false]) (by kernel_rfl) (fun _ _ _ h => h) rfl ⟨hs.cell .t7, hs.cell .head, hs.now .t4, pt_cell (hs.cell .t5) 4 (by decide)⟩ (p_move rfl) ?_
      refine h_pu 7 rfl (ls' := #[true, false, true, true, true, true, true, true, false, false, false, false, false, false, false, false, false, false, false, false]) (by kernel_rfl) (fun _ _ _ h => h) rfl ⟨hs.cell .t7, hs.cell .head, hs.now .t4, pt_cell (hs.cell .t5) 4 (by decide)⟩ (p_addI rfl rfl ?_) ?_
      ·
       (simp; omega)
      refine h_pu 8 rfl (ls' := #[true, false, true, true, true, true, true, true, true, false, false, false, false, false, false, false, false, false, false, false]) (by kernel_rfl) (fun _ _ _ h => h) rfl ⟨hs.cell .t7, hs.cell .head, hs.now .t4, pt_cell (hs.cell .t5) 4 (by decide)⟩ (p_elem (by show some (Value.slice ad kids.length cap) = _; rw [hb0]) rfl (by dsimp only; omega) (by dsimp only; omega)) ?_
      refine h_take 9 rfl (ls' := #[true, false, true, true, true, true, true, true, true, true, false, false, false, false, false, false, false, false, false, false]) (by kernel_rfl) (fun _ _ _ h => h) rfl ⟨hs.cell .t7, hs.cell .head, hs.now .t4, pt_cell (hs.cell .t5) 4 (by decide)⟩ (fun w hw => m_loadA (n := 6) (g := tc j.t) rfl (by have e1 : ((ts.length : Int) + 1).toNat = ts.length + 1 := (by omega); rw [e1]; exact (hall _ (hR _ hw.2.2.1).kids _ _ hji).2)) ?_
      refine h_pu 10 rfl (ls' := #[true, false, true, true, true, true, true, true, true, true, true, false, false, false, false, false, false, false, false, false]) (by kernel_rfl) (fun _ _ _ h => h) rfl ⟨hs.cell .t7, hs.cell .head, hs.now .t4, pt_cell (hs.cell .t5) 4 (by decide)⟩ (p_move rfl) ?_
      refine h_pu 11 rfl (ls' := #[true, false, true, true, true, true, true, true, true, true, true, true, false, false, false, false, false, false, false, false]) (by kernel_rfl) (fun _ _ _ h => h) rfl ⟨hs.cell .t7, hs.cell .head, hs.now .t4, pt_cell (hs.cell .t5) 4 (by decide)⟩ (p_addI rfl rfl ?_) ?_
      ·
       (first | assumption | omega)
      refine h_pu 12 rfl (ls' := #[true, false, true, true, true, true, true, true, true, true, true, true, true, false, false, false, false, false, false, false]) (by kernel_rfl) (fun _ _ _ h => h) rfl ⟨hs.cell .t7, hs.cell .head, hs.now .t4, pt_cell (hs.cell .t5) 4 (by decide)⟩ (p_field rfl) ?_
      refine h_take 13 rfl (ls' := #[true, false, true, true, true, true, true, true, true, true, true, true, true, true, false, false, false, false, false, false]) (by kernel_rfl) (fun _ _ _ h => h) rfl ⟨hs.cell .t7, hs.cell .head, hs.now .t4, pt_cell (hs.cell .t5) 4 (by decide)⟩ (fun w hw => m_load1 rfl hw.2.2.2) ?_
      refine h_pu 14 rfl (ls' := #[true, false, true, true, true, true, true, true, true, true, true, true, true, true, true, false, false, false, false, false]) (by kernel_rfl) (fun _ _ _ h => h) rfl ⟨hs.cell .t7, hs.cell .head, hs.now .t4, pt_cell (hs.cell .t5) 4 (by decide)⟩ (p_eqI rfl rfl) ?_
      refine h_two 1 15 rfl rfl (ls' := #[true, true, true, true, true, true, true, true, true, true, true, true, true, true, true, false, false, false, false, false]) (ls'' := #[true, false, true, true, true, true, true, true, true, true, true, true, true, true, true, true, false, false, false, false]) (by kernel_rfl) ?_ ?_
      ·
       refine k_ld hs rfl .t5 rfl rfl ?_
       refine WL_th ⟨⟨hs.cell .t7, hs.cell .head, hs.now .t4, pt_cell (hs.cell .t5) 4 (by decide)⟩, ?_⟩
       refine h_one 15 rfl (ls' := #[true, true, true, true, true, true, true, true, true, true, true, true, true, true, true, true, false, false, false, false]) (by kernel_rfl) ?_
       have hs := hs.front .t4
       have hs := hs.front .t3
       have hs := hs.front .t3
       refine k_spec [pt fb 56 3 (fC left2 a2), rowL a2 9 (ns2.map Value.string), hold R] (hT j R (fun w h => (hR w h).all j hjm) (hSk _ hjm) fb left2 a2 ns2 (level + 1) _ (by omega) (by omega) (by omega) (by omega) (by omega)) hs (.cons rfl (.cons rfl (.cons rfl (.cons rfl .nil)))) rfl ?_
       rintro _ _ _ ⟨⟨tj, kj⟩, left3, a3, ns3, rfl, hfit, hsz, hl4, hl5, hn3, _, rfl⟩ hs
       refine WL_th ⟨⟨hs.cell .t8, hs.cell .t4, hs.now .t3, pt_cell (hs.cell .t6) 4 (by decide)⟩, ?_⟩
       refine h_one 16 rfl (ls' := #[true, true, true, true, true, true, true, true, true, true, true, true, true, true, true, true, true, false, false, false]) (by kernel_rfl) ?_
       refine k_bs hs (.agg rfl (.agg rfl .nil)) rfl rfl rfl ?_
       intro b77 _ hs
       have hs := hs.imp .head (pt_to (g := recs 6 (fun r : TT => tc r.t) [TT.mk tk [], TT.mk tj kj]) (recs_two6 (.mk tk []) (.mk tj kj)))
       refine WL_th ⟨⟨hs.cell .t9, hs.cell .t5, hs.now .t4, pt_cell (hs.cell .t7) 4 (by decide)⟩, ?_⟩
       refine h_one 17 rfl (ls' := #[true, true, true, true, true, true, true, true, true, true, true, true, true, true, true, true, true, true, false, false]) (by kernel_rfl) ?_
       have honej := (hs.now (R := fun w => RepT w (.mk tj kj)) .t3).kids.one
       have hs := hs.front .t6
       refine k_app (n := ts.length) hs rfl rfl .head rfl (one_two6 (r := .mk tk []) (s := .mk tj kj) (by show tk.kids.oneCell' = true; rw [hkz]; rfl) honej) (by omega) (by omega) rfl ?_
       intro v78 _ hs
       have hs := hs.imp .head (rowT_snoc2 (r := .mk tk []) (s := .mk tj kj))
       refine WL_th ⟨⟨hs.cell .t9, hs.cell .t6, hs.now .t5, pt_cell (hs.cell .t7) 4 (by decide)⟩, ?_⟩
       refine h_pu 18 rfl (ls' := #[true, true, true, true, true, true, true, true, true, true, true, true, true, true, true, true, true, true, true, false]) (by kernel_rfl) (fun _ _ _ h => h) rfl ⟨hs.cell .t9, hs.cell .t6, hs.now .t5, pt_cell (hs.cell .t7) 4 (by decide)⟩ (p_field rfl) ?_
       refine h_one 19 rfl (ls' := #[true, true, true, true, true, true, true, true, true, true, true, true, true, true, true, true, true, true, true, true]) (by kernel_rfl) ?_
       refine k_st hs rfl rfl .t7 (row_one (hs.pick .head)) rfl ?_
       intro _ hs
       refine WL_th ⟨⟨hs.cell .t9, hs.cell .t6, hs.now .t5, pt_cell (hs.cell .t7) 4 (by decide)⟩, ?_⟩
       refine h_done (by kernel_rfl) ?_
       show W _ _ _ _ _ _
       refine W_forget (Ext.cd 0 rfl (Ext.cd 3 rfl (Ext.cd 6 rfl (Ext.cd 7 rfl (Ext.cd 10 rfl (Ext.cd 11 rfl (Ext.cd 12 rfl (Ext.nil _)))))))) ?_
       refine W_exit ?_
       show W _ _ _ _ _ _
       refine W_reg ?_
       refine s_pu (p_move rfl) rfl ?_
       refine s_pu (p_move rfl) rfl ?_
       refine s_pu (p_addI rfl rfl ?_) rfl ?_
       ·
        (show _ ≤ ((ts.length:Nat):Int) + 2 ∧ ((ts.length:Nat):Int) + 2 ≤ _; omega)
       refine s_pu (p_assign rfl) rfl ?_
       refine WL_th ?_
       have hs := hs.front .t10
       have hs := hs.front .t10
       have hs := hs.front .t7
       have hs := hs.front .t6
       have hs := hs.front .t6
       have hs := hs.front .t10
       have hs := hs.front .t8
       have hs := hs.front .t7
       have hs := hs.front .t10
       have hs := St.cut (G1 := [_, _, _, _, _, _, _, _, _]) hs
       have hs := hs.imp .head (pt_to (g := tc ⟨3, ovalue, oanchor, otag, st, v78⟩) (by repeat (first | exact below_zero | refine below_succ ?_ rfl)))
       have hs := hs.front .t2
       have hs := hs.front .t3
       have hs := hs.hold_and
       have hs := hs.hold_imp (R' := fun w => ∀ r ∈ ts ++ [TT.mk tk [], TT.mk tj kj], RepT w r) (fun w h r hr => by simp only [List.mem_append, List.mem_cons, List.not_mem_nil, or_false] at hr; rcases hr with hr | rfl | rfl <;> first | exact h.1 r hr | exact h.2 | exact .mk (.empty hkz) (by simp))
       have hs := hs.front .t2
       have hs := hs.front .t2
       refine ⟨(ts ++ [TT.mk tk [], TT.mk tj kj], v78, left3, a3, ns3), (Ext.cons rfl (Ext.cons rfl (Ext.cons rfl (Ext.cons rfl (Ext.cons rfl (Ext.cons rfl (Ext.cons (by show some (Value.int .i64 ((ts.length : Int) + 2)) = _; simp) (Ext.nil _)))))))), ⟨by simp; omega, ?_, ?_, ⟨xq + 1, by simp; omega⟩, keys_snoc2 hxq hxk hkey, ?_, by simp only; omega, ?_, hs⟩, by simp; omega⟩
       ·
        simp only [List.length_append, List.length_cons, List.length_nil, tsizes_app, tsizes, Nat.add_mul]; simp only [TT.size, tsizes] at hsz ⊢; have := one_le_szS d; omega
       ·
        intro r hr; simp only [List.mem_append, List.mem_cons, List.not_mem_nil, or_false] at hr; rcases hr with hr | rfl | rfl <;> first | exact hxf r hr | exact hfit | exact .scalar hkey.1 hkv
       ·
        simp only [List.length_append, List.length_cons, List.length_nil, Nat.add_mul]; omega
       ·
        simp only [List.length_append, List.length_cons, List.length_nil, Nat.add_mul]; omega
      ·
       have hs := hs.front .t4
       have hs := hs.front .t3
       have hs := hs.front .t3
       refine k_spec [pt fb 56 3 (fC left2 a2), rowL a2 9 (ns2.map Value.string), hold R] (hT j R (fun w h => (hR w h).all j hjm) (hSk _ hjm) fb left2 a2 ns2 (level + 1) _ (by omega) (by omega) (by omega) (by omega) (by omega)) hs (.cons rfl (.cons rfl (.cons rfl (.cons rfl .nil)))) rfl ?_
       rintro _ _ _ ⟨⟨tj, kj⟩, left3, a3, ns3, rfl, hfit, hsz, hl4, hl5, hn3, _, rfl⟩ hs
       refine WL_th ⟨⟨hs.cell .t8, hs.cell .t4, hs.now .t3, pt_cell (hs.cell .t6) 4 (by decide)⟩, ?_⟩
       refine h_two 1 16 rfl rfl (ls' := #[true, true, true, true, true, true, true, true, true, true, true, true, true, true, true, true, false, false, false, false]) (ls'' := #[true, false, true, true, true, true, true, true, true, true, true, true, true, true, true, true, true, false, false, false]) (by kernel_rfl) ?_ ?_
       ·
        refine k_ld hs rfl .t6 rfl rfl ?_
        refine WL_th ⟨⟨hs.cell .t8, hs.cell .t4, hs.now .t3, pt_cell (hs.cell .t6) 4 (by decide)⟩, ?_⟩
        refine h_one 16 rfl (ls' := #[true, true, true, true, true, true, true, true, true, true, true, true, true, true, true, true, true, false, false, false]) (by kernel_rfl) ?_
        refine k_bs hs (.agg rfl (.agg rfl .nil)) rfl rfl rfl ?_
        intro b77 _ hs
        have hs := hs.imp .head (pt_to (g := recs 6 (fun r : TT => tc r.t) [TT.mk tk [], TT.mk tj kj]) (recs_two6 (.mk tk []) (.mk tj kj)))
        refine WL_th ⟨⟨hs.cell .t9, hs.cell .t5, hs.now .t4, pt_cell (hs.cell .t7) 4 (by decide)⟩, ?_⟩
        refine h_one 17 rfl (ls' := #[true, true, true, true, true, true, true, true, true, true, true, true, true, true, true, true, true, true, false, false]) (by kernel_rfl) ?_
        have honej := (hs.now (R := fun w => RepT w (.mk tj kj)) .t3).kids.one
        have hs := hs.front .t6
        refine k_app (n := ts.length) hs rfl rfl .head rfl (one_two6 (r := .mk tk []) (s := .mk tj kj) (by show tk.kids.oneCell' = true; rw [hkz]; rfl) honej) (by omega) (by omega) rfl ?_
        intro v78 _ hs
        have hs := hs.imp .head (rowT_snoc2 (r := .mk tk []) (s := .mk tj kj))
        refine WL_th ⟨⟨hs.cell .t9, hs.cell .t6, hs.now .t5, pt_cell (hs.cell .t7) 4 (by decide)⟩, ?_⟩
        refine h_pu 18 rfl (ls' := #[true, true, true, true, true, true, true, true, true, true, true, true, true, true, true, true, true, true, true, false]) (by kernel_rfl) (fun _ _ _ h => h) rfl ⟨hs.cell .t9, hs.cell .t6, hs.now .t5, pt_cell (hs.cell .t7) 4 (by decide)⟩ (p_field rfl) ?_
        refine h_one 19 rfl (ls' := #[true, true, true, true, true, true, true, true, true, true, true, true, true, true, true, true, true, true, true, true]) (by kernel_rfl) ?_
        refine k_st hs rfl rfl .t7 (row_one (hs.pick .head)) rfl ?_
        intro _ hs
        refine WL_th ⟨⟨hs.cell .t9, hs.cell .t6, hs.now .t5, pt_cell (hs.cell .t7) 4 (by decide)⟩, ?_⟩
        refine h_done (by kernel_rfl) ?_
        show W _ _ _ _ _ _
        refine W_forget (Ext.cd 0 rfl (Ext.cd 3 rfl (Ext.cd 6 rfl (Ext.cd 7 rfl (Ext.cd 10 rfl (Ext.cd 11 rfl (Ext.cd 12 rfl (Ext.nil _)))))))) ?_
        refine W_exit ?_
        show W _ _ _ _ _ _
        refine W_reg ?_
        refine s_pu (p_move rfl) rfl ?_
        refine s_pu (p_move rfl) rfl ?_
        refine s_pu (p_addI rfl rfl ?_) rfl ?_
        ·
         (show _ ≤ ((ts.length:Nat):Int) + 2 ∧ ((ts.length:Nat):Int) + 2 ≤ _; omega)
        refine s_pu (p_assign rfl) rfl ?_
        refine WL_th ?_
        have hs := hs.front .t10
        have hs := hs.front .t10
        have hs := hs.front .t7
        have hs := hs.front .t6
        have hs := hs.front .t6
        have hs := hs.front .t10
        have hs := hs.front .t8
        have hs := hs.front .t7
        have hs := hs.front .t10
        have hs := St.cut (G1 := [_, _, _, _, _, _, _, _, _]) hs
        have hs := hs.imp .head (pt_to (g := tc ⟨3, ovalue, oanchor, otag, st, v78⟩) (by repeat (first | exact below_zero | refine below_succ ?_ rfl)))
        have hs := hs.front .t2
        have hs := hs.front .t3
        have hs := hs.hold_and
        have hs := hs.hold_imp (R' := fun w => ∀ r ∈ ts ++ [TT.mk tk [], TT.mk tj kj], RepT w r) (fun w h r hr => by simp only [List.mem_append, List.mem_cons, List.not_mem_nil, or_false] at hr; rcases hr with hr | rfl | rfl <;> first | exact h.1 r hr | exact h.2 | exact .mk (.empty hkz) (by simp))
        have hs := hs.front .t2
        have hs := hs.front .t2
        refine ⟨(ts ++ [TT.mk tk [], TT.mk tj kj], v78, left3, a3, ns3), (Ext.cons rfl (Ext.cons rfl (Ext.cons rfl (Ext.cons rfl (Ext.cons rfl (Ext.cons rfl (Ext.cons (by show some (Value.int .i64 ((ts.length : Int) + 2)) = _; simp) (Ext.nil _)))))))), ⟨by simp; omega, ?_, ?_, ⟨xq + 1, by simp; omega⟩, keys_snoc2 hxq hxk hkey, ?_, by simp only; omega, ?_, hs⟩, by simp; omega⟩
        ·
         simp only [List.length_append, List.length_cons, List.length_nil, tsizes_app, tsizes, Nat.add_mul]; simp only [TT.size, tsizes] at hsz ⊢; have := one_le_szS d; omega
        ·
         intro r hr; simp only [List.mem_append, List.mem_cons, List.not_mem_nil, or_false] at hr; rcases hr with hr | rfl | rfl <;> first | exact hxf r hr | exact hfit | exact .scalar hkey.1 hkv
        ·
         simp only [List.length_append, List.length_cons, List.length_nil, Nat.add_mul]; omega
        ·
         simp only [List.length_append, List.length_cons, List.length_nil, Nat.add_mul]; omega
       ·
        refine k_bs hs (.agg rfl (.agg rfl .nil)) rfl rfl rfl ?_
        intro b77 _ hs
        have hs := hs.imp .head (pt_to (g := recs 6 (fun r : TT => tc r.t) [TT.mk tk [], TT.mk tj kj]) (recs_two6 (.mk tk []) (.mk tj kj)))
        refine WL_th ⟨⟨hs.cell .t9, hs.cell .t5, hs.now .t4, pt_cell (hs.cell .t7) 4 (by decide)⟩, ?_⟩
        refine h_one 1 rfl (ls' := #[true, true, true, true, true, true, true, true, true, true, true, true, true, true, true, true, true, false, false, false]) (by kernel_rfl) ?_
        refine k_ld hs rfl .t7 rfl rfl ?_
        refine WL_th ⟨⟨hs.cell .t9, hs.cell .t5, hs.now .t4, pt_cell (hs.cell .t7) 4 (by decide)⟩, ?_⟩
        refine h_one 17 rfl (ls' := #[true, true, true, true, true, true, true, true, true, true, true, true, true, true, true, true, true, true, false, false]) (by kernel_rfl) ?_
        have honej := (hs.now (R := fun w => RepT w (.mk tj kj)) .t3).kids.one
        have hs := hs.front .t6
        refine k_app (n := ts.length) hs rfl rfl .head rfl (one_two6 (r := .mk tk []) (s := .mk tj kj) (by show tk.kids.oneCell' = true; rw [hkz]; rfl) honej) (by omega) (by omega) rfl ?_
        intro v78 _ hs
        have hs := hs.imp .head (rowT_snoc2 (r := .mk tk []) (s := .mk tj kj))
        refine WL_th ⟨⟨hs.cell .t9, hs.cell .t6, hs.now .t5, pt_cell (hs.cell .t7) 4 (by decide)⟩, ?_⟩
        refine h_pu 18 rfl (ls' := #[true, true, true, true, true, true, true, true, true, true, true, true, true, true, true, true, true, true, true, false]) (by kernel_rfl) (fun _ _ _ h => h) rfl ⟨hs.cell .t9, hs.cell .t6, hs.now .t5, pt_cell (hs.cell .t7) 4 (by decide)⟩ (p_field rfl) ?_
        refine h_one 19 rfl (ls' := #[true, true, true, true, true, true, true, true, true, true, true, true, true, true, true, true, true, true, true, true]) (by kernel_rfl) ?_
        refine k_st hs rfl rfl .t7 (row_one (hs.pick .head)) rfl ?_
        intro _ hs
        refine WL_th ⟨⟨hs.cell .t9, hs.cell .t6, hs.now .t5, pt_cell (hs.cell .t7) 4 (by decide)⟩, ?_⟩
        refine h_done (by kernel_rfl) ?_
        show W _ _ _ _ _ _
        refine W_forget (Ext.cd 0 rfl (Ext.cd 3 rfl (Ext.cd 6 rfl (Ext.cd 7 rfl (Ext.cd 10 rfl (Ext.cd 11 rfl (Ext.cd 12 rfl (Ext.nil _)))))))) ?_
        refine W_exit ?_
        show W _ _ _ _ _ _
        refine W_reg ?_
        refine s_pu (p_move rfl) rfl ?_
        refine s_pu (p_move rfl) rfl ?_
        refine s_pu (p_addI rfl rfl ?_) rfl ?_
        ·
         (show _ ≤ ((ts.length:Nat):Int) + 2 ∧ ((ts.length:Nat):Int) + 2 ≤ _; omega)
        refine s_pu (p_assign rfl) rfl ?_
        refine WL_th ?_
        have hs := hs.front .t10
        have hs := hs.front .t10
        have hs := hs.front .t7
        have hs := hs.front .t6
        have hs := hs.front .t6
        have hs := hs.front .t10
        have hs := hs.front .t8
        have hs := hs.front .t7
        have hs := hs.front .t10
        have hs := St.cut (G1 := [_, _, _, _, _, _, _, _, _]) hs
        have hs := hs.imp .head (pt_to (g := tc ⟨3, ovalue, oanchor, otag, st, v78⟩) (by repeat (first | exact below_zero | refine below_succ ?_ rfl)))
        have hs := hs.front .t2
        have hs := hs.front .t3
        have hs := hs.hold_and
        have hs := hs.hold_imp (R' := fun w => ∀ r ∈ ts ++ [TT.mk tk [], TT.mk tj kj], RepT w r) (fun w h r hr => by simp only [List.mem_append, List.mem_cons, List.not_mem_nil, or_false] at hr; rcases hr with hr | rfl | rfl <;> first | exact h.1 r hr | exact h.2 | exact .mk (.empty hkz) (by simp))
        have hs := hs.front .t2
        have hs := hs.front .t2
        refine ⟨(ts ++ [TT.mk tk [], TT.mk tj kj], v78, left3, a3, ns3), (Ext.cons rfl (Ext.cons rfl (Ext.cons rfl (Ext.cons rfl (Ext.cons rfl (Ext.cons rfl (Ext.cons (by show some (Value.int .i64 ((ts.length : Int) + 2)) = _; simp) (Ext.nil _)))))))), ⟨by simp; omega, ?_, ?_, ⟨xq + 1, by simp; omega⟩, keys_snoc2 hxq hxk hkey, ?_, by simp only; omega, ?_, hs⟩, by simp; omega⟩
        ·
         simp only [List.length_append, List.length_cons, List.length_nil, tsizes_app, tsizes, Nat.add_mul]; simp only [TT.size, tsizes] at hsz ⊢; have := one_le_szS d; omega
        ·
         intro r hr; simp only [List.mem_append, List.mem_cons, List.not_mem_nil, or_false] at hr; rcases hr with hr | rfl | rfl <;> first | exact hxf r hr | exact hfit | exact .scalar hkey.1 hkv
        ·
         simp only [List.length_append, List.length_cons, List.length_nil, Nat.add_mul]; omega
        ·
         simp only [List.length_append, List.length_cons, List.length_nil, Nat.add_mul]; omega
     ·
      refine k_alloc hs rfl ?_
      intro b13 _ hs
      refine WL_th ⟨⟨hs.cell .t7, hs.cell .t1, hs.now .t6⟩, ?_⟩
      refine h_one 8 rfl (ls' := #[true, true, true, true, true, true, true, true, true, true, false]) (by kernel_rfl) ?_
      have hs := hs.front .t6
      have hs := hs.front .t3
      have hs := hs.front .t6
      have hs := hs.front .t6
      refine k_spec [pt fb 56 3 (fC left1 a1), rowL a1 9 (ns1.map Value.string), rowT v1 ts, hold R] (c_key d hT k R (fun w h => (hR w h).all k hkm) (hSk _ hkm) ⟨3, ovalue, oanchor, otag, st, v1⟩ ts hk4 fb left1 a1 ns1 level (by omega) (by omega) (by omega) (by omega) (by omega)) hs (.cons rfl (.cons rfl (.cons rfl (.cons rfl .nil)))) rfl ?_
      rintro _ _ _ ⟨tk, left2, a2, ns2, rfl, hkey, hkz, hkv, hl2, hl3, hn2, rfl⟩ hs
      refine WL_th ⟨⟨hs.cell .t7, hs.cell .t5, hs.now .t3⟩, ?_⟩
      refine h_one 10 rfl (ls' := #[true, true, true, true, true, true, true, true, true, true, true]) (by kernel_rfl) ?_
      refine k_stW hs rfl rfl .t4 (tc_one (by rw [hkz]; rfl)) ?_
      intro _ hs
      have hs := hs.imp .t4 (pt_to (g := tc tk) (by repeat (first | exact below_zero | refine below_succ ?_ rfl)))
      refine WL_th ⟨⟨hs.cell .t7, hs.cell .t5, hs.now .t3⟩, ?_⟩
      refine h_done (by kernel_rfl) ?_
      show W _ _ _ _ _ _
      refine W_forget (Ext.cd 0 rfl (Ext.cd 3 rfl (Ext.cd 6 rfl (Ext.cd 7 rfl (Ext.cd 10 rfl (Ext.cd 11 rfl (Ext.cd 12 rfl (Ext.cd 13 rfl (Ext.nil _))))))))) ?_
      refine W_seq ?_
      refine h_start (S := fun w => w.heap[b7]? = some (.cells (mkA 6 (tc ⟨kind, value, anchor, tag, style, .slice ad kids.length cap⟩)) 24 (0, 0)) ∧ w.heap[b13]? = some (.cells (mkA 6 (tc tk)) 24 (0, 0)) ∧ R w ∧ w.cell? ⟨b6, 4, none⟩ = some (Value.int .i64 st)) (ls := #[false, false, false, false, false, false, false, false, false, false, false, false, false, false, false, false, false, false, false, false]) (n := 20) (by kernel_rfl) (by kernel_rfl) ?_
      have hs := hs.drew
      refine h_pu 0 rfl (ls' := #[true, false, false, false, false, false, false, false, false, false, false, false, false, false, false, false, false, false, false, false]) (by kernel_rfl) (fun _ _ _ h => h) rfl ⟨hs.cell .t7, hs.cell .t4, hs.now .t3, pt_cell (hs.cell .t5) 4 (by decide)⟩ (p_field rfl) ?_
      refine h_take 2 rfl (ls' := #[true, false, true, false, false, false, false, false, false, false, false, false, false, false, false, false, false, false, false, false]) (by kernel_rfl) (fun _ _ _ h => h) rfl ⟨hs.cell .t7, hs.cell .t4, hs.now .t3, pt_cell (hs.cell .t5) 4 (by decide)⟩ (fun w hw => q_ldW rfl hw.2.1) ?_
      refine h_pu 3 rfl (ls' := #[true, false, true, true, false, false, false, false, false, false, false, false, false, false, false, false, false, false, false, false]) (by kernel_rfl) (fun _ _ _ h => h) rfl ⟨hs.cell .t7, hs.cell .t4, hs.now .t3, pt_cell (hs.cell .t5) 4 (by decide)⟩ (p_move rfl) ?_
      refine h_pu 4 rfl (ls' := #[true, false, true, true, true, false, false, false, false, false, false, false, false, false, false, false, false, false, false, false]) (by kernel_rfl) (fun _ _ _ h => h) rfl ⟨hs.cell .t7, hs.cell .t4, hs.now .t3, pt_cell (hs.cell .t5) 4 (by decide)⟩ (p_field rfl) ?_
      refine h_take 5 rfl (ls' := #[true, false, true, true, true, true, false, false, false, false, false, false, false, false, false, false, false, false, false, false]) (by kernel_rfl) (fun _ _ _ h => h) rfl ⟨hs.cell .t7, hs.cell .t4, hs.now .t3, pt_cell (hs.cell .t5) 4 (by decide)⟩ (fun w hw => q_ld rfl hw.1 rfl) ?_
      refine h_pu 6 rfl (ls' := #[true, false, true, true, true, true, true, false, false, false, false, false, false, false, false, false, false, false, false, false]) (by kernel_rfl) (fun _ _ _ h => h) rfl ⟨hs.cell .t7, hs.cell .t4, hs.now .t3, pt_cell (hs.cell .t5) 4 (by decide)⟩ (p_move rfl) ?_
      refine h_pu 7 rfl (ls' := #[true, false, true, true, true, true, true, true, false, false, false, false, false, false, false, false, false, false, false, false]) (by kernel_rfl) (fun _ _ _ h => h) rfl ⟨hs.cell .t7, hs.cell .t4, hs.now .t3, pt_cell (hs.cell .t5) 4 (by decide)⟩ (p_addI rfl rfl ?_) ?_
      ·
       (simp; omega)
      refine h_pu 8 rfl (ls' := #[true, false, true, true, true, true, true, true, true, false, false, false, false, false, false, false, false, false, false, false]) (by kernel_rfl) (fun _ _ _ h => h) rfl ⟨hs.cell .t7, hs.cell .t4, hs.now .t3, pt_cell (hs.cell .t5) 4 (by decide)⟩ (p_elem (by show some (Value.slice ad kids.length cap) = _; rw [hb0]) rfl (by dsimp only; omega) (by dsimp only; omega)) ?_
      refine h_take 9 rfl (ls' := #[true, false, true, true, true, true, true, true, true, true, false, false, false, false, false, false, false, false, false, false]) (by kernel_rfl) (fun _ _ _ h => h) rfl ⟨hs.cell .t7, hs.cell .t4, hs.now .t3, pt_cell (hs.cell .t5) 4 (by decide)⟩ (fun w hw => m_loadA (n := 6) (g := tc j.t) rfl (by have e1 : ((ts.length : Int) + 1).toNat = ts.length + 1 := (by omega); rw [e1]; exact (hall _ (hR _ hw.2.2.1).kids _ _ hji).2)) ?_
      refine h_pu 10 rfl (ls' := #[true, false, true, true, true, true, true, true, true, true, true, false, false, false, false, false, false, false, false, false]) (by kernel_rfl) (fun _ _ _ h => h) rfl ⟨hs.cell .t7, hs.cell .t4, hs.now .t3, pt_cell (hs.cell .t5) 4 (by decide)⟩ (p_move rfl) ?_
      refine h_pu 11 rfl (ls' := #[true, false, true, true, true, true, true, true, true, true, true, true, false, false, false, false, false, false, false, false]) (by kernel_rfl) (fun _ _ _ h => h) rfl ⟨hs.cell .t7, hs.cell .t4, hs.now .t3, pt_cell (hs.cell .t5) 4 (by decide)⟩ (p_addI rfl rfl ?_) ?_
      ·
       (first | assumption | omega)
      refine h_pu 12 rfl (ls' := #[true, false, true, true, true, true, true, true, true, true, true, true, true, false, false, false, false, false, false, false]) (by kernel_rfl) (fun _ _ _ h => h) rfl ⟨hs.cell .t7, hs.cell .t4, hs.now .t3, pt_cell (hs.cell .t5) 4 (by decide)⟩ (p_field rfl) ?_
      refine h_take 13 rfl (ls' := #[true, false, true, true, true, true, true, true, true, true, true, true, true, true, false, false, false, false, false, false]) (by kernel_rfl) (fun _ _ _ h => h) rfl ⟨hs.cell .t7, hs.cell .t4, hs.now .t3, pt_cell (hs.cell .t5) 4 (by decide)⟩ (fun w hw => m_load1 rfl hw.2.2.2) ?_
      refine h_pu 14 rfl (ls' := #[true, false, true, true, true, true, true, true, true, true, true, true, true, true, true, false, false, false, false, false]) (by kernel_rfl) (fun _ _ _ h => h) rfl ⟨hs.cell .t7, hs.cell .t4, hs.now .t3, pt_cell (hs.cell .t5) 4 (by decide)⟩ (p_eqI rfl rfl) ?_
      refine h_two 1 15 rfl rfl (ls' := #[true, true, true, true, true, true, true, true, true, true, true, true, true, true, true, false, false, false, false, false]) (ls'' := #[true, false, true, true, true, true, true, true, true, true, true, true, true, true, true, true, false, false, false, false]) (by kernel_rfl) ?_ ?_
      ·
       refine k_ld hs rfl .t5 rfl rfl ?_
       refine WL_th ⟨⟨hs.cell .t7, hs.cell .t4, hs.now .t3, pt_cell (hs.cell .t5) 4 (by decide)⟩, ?_⟩
       refine h_one 15 rfl (ls' := #[true, true, true, true, true, true, true, true, true, true, true, true, true, true, true, true, false, false, false, false]) (by kernel_rfl) ?_
       have hs := hs.front .t3
       have hs := hs.front .t2
       have hs := hs.front .t2
       refine k_spec [pt fb 56 3 (fC left2 a2), rowL a2 9 (ns2.map Value.string), hold R] (hT j R (fun w h => (hR w h).all j hjm) (hSk _ hjm) fb left2 a2 ns2 (level + 1) _ (by omega) (by omega) (by omega) (by omega) (by omega)) hs (.cons rfl (.cons rfl (.cons rfl (.cons rfl .nil)))) rfl ?_
       rintro _ _ _ ⟨⟨tj, kj⟩, left3, a3, ns3, rfl, hfit, hsz, hl4, hl5, hn3, _, rfl⟩ hs
       refine WL_th ⟨⟨hs.cell .t8, hs.cell .t5, hs.now .t3, pt_cell (hs.cell .t6) 4 (by decide)⟩, ?_⟩
       refine h_one 16 rfl (ls' := #[true, true, true, true, true, true, true, true, true, true, true, true, true, true, true, true, true, false, false, false]) (by kernel_rfl) ?_
       refine k_bs hs (.agg rfl (.agg rfl .nil)) rfl rfl rfl ?_
       intro b77 _ hs
       have hs := hs.imp .head (pt_to (g := recs 6 (fun r : TT => tc r.t) [TT.mk tk [], TT.mk tj kj]) (recs_two6 (.mk tk []) (.mk tj kj)))
       refine WL_th ⟨⟨hs.cell .t9, hs.cell .t6, hs.now .t4, pt_cell (hs.cell .t7) 4 (by decide)⟩, ?_⟩
       refine h_one 17 rfl (ls' := #[true, true, true, true, true, true, true, true, true, true, true, true, true, true, true, true, true, true, false, false]) (by kernel_rfl) ?_
       have honej := (hs.now (R := fun w => RepT w (.mk tj kj)) .t3).kids.one
       have hs := hs.front .t5
       refine k_app (n := ts.length) hs rfl rfl .head rfl (one_two6 (r := .mk tk []) (s := .mk tj kj) (by show tk.kids.oneCell' = true; rw [hkz]; rfl) honej) (by omega) (by omega) rfl ?_
       intro v78 _ hs
       have hs := hs.imp .head (rowT_snoc2 (r := .mk tk []) (s := .mk tj kj))
       refine WL_th ⟨⟨hs.cell .t9, hs.cell .t6, hs.now .t5, pt_cell (hs.cell .t7) 4 (by decide)⟩, ?_⟩
       refine h_pu 18 rfl (ls' := #[true, true, true, true, true, true, true, true, true, true, true, true, true, true, true, true, true, true, true, false]) (by kernel_rfl) (fun _ _ _ h => h) rfl ⟨hs.cell .t9, hs.cell .t6, hs.now .t5, pt_cell (hs.cell .t7) 4 (by decide)⟩ (p_field rfl) ?_
       refine h_one 19 rfl (ls' := #[true, true, true, true, true, true, true, true, true, true, true, true, true, true, true, true, true, true, true, true]) (by kernel_rfl) ?_
       refine k_st hs rfl rfl .t7 (row_one (hs.pick .head)) rfl ?_
       intro _ hs
       refine WL_th ⟨⟨hs.cell .t9, hs.cell .t6, hs.now .t5, pt_cell (hs.cell .t7) 4 (by decide)⟩, ?_⟩
       refine h_done (by kernel_rfl) ?_
       show W _ _ _ _ _ _
       refine W_forget (Ext.cd 0 rfl (Ext.cd 3 rfl (Ext.cd 6 rfl (Ext.cd 7 rfl (Ext.cd 10 rfl (Ext.cd 11 rfl (Ext.cd 12 rfl (Ext.nil _)))))))) ?_
       refine W_exit ?_
       show W _ _ _ _ _ _
       refine W_reg ?_
       refine s_pu (p_move rfl) rfl ?_
       refine s_pu (p_move rfl) rfl ?_
       refine s_pu (p_addI rfl rfl ?_) rfl ?_
       ·
        (show _ ≤ ((ts.length:Nat):Int) + 2 ∧ ((ts.length:Nat):Int) + 2 ≤ _; omega)
       refine s_pu (p_assign rfl) rfl ?_
       refine WL_th ?_
       have hs := hs.front .t10
       have hs := hs.front .t10
       have hs := hs.front .t7
       have hs := hs.front .t6
       have hs := hs.front .t6
       have hs := hs.front .t10
       have hs := hs.front .t8
       have hs := hs.front .t7
       have hs := hs.front .t10
       have hs := St.cut (G1 := [_, _, _, _, _, _, _, _, _]) hs
       have hs := hs.imp .head (pt_to (g := tc ⟨3, ovalue, oanchor, otag, st, v78⟩) (by repeat (first | exact below_zero | refine below_succ ?_ rfl)))
       have hs := hs.front .t2
       have hs := hs.front .t3
       have hs := hs.hold_and
       have hs := hs.hold_imp (R' := fun w => ∀ r ∈ ts ++ [TT.mk tk [], TT.mk tj kj], RepT w r) (fun w h r hr => by simp only [List.mem_append, List.mem_cons, List.not_mem_nil, or_false] at hr; rcases hr with hr | rfl | rfl <;> first | exact h.1 r hr | exact h.2 | exact .mk (.empty hkz) (by simp))
       have hs := hs.front .t2
       have hs := hs.front .t2
       refine ⟨(ts ++ [TT.mk tk [], TT.mk tj kj], v78, left3, a3, ns3), (Ext.cons rfl (Ext.cons rfl (Ext.cons rfl (Ext.cons rfl (Ext.cons rfl (Ext.cons rfl (Ext.cons (by show some (Value.int .i64 ((ts.length : Int) + 2)) = _; simp) (Ext.nil _)))))))), ⟨by simp; omega, ?_, ?_, ⟨xq + 1, by simp; omega⟩, keys_snoc2 hxq hxk hkey, ?_, by simp only; omega, ?_, hs⟩, by simp; omega⟩
       ·
        simp only [List.length_append, List.length_cons, List.length_nil, tsizes_app, tsizes, Nat.add_mul]; simp only [TT.size, tsizes] at hsz ⊢; have := one_le_szS d; omega
       ·
        intro r hr; simp only [List.mem_append, List.mem_cons, List.not_mem_nil, or_false] at hr; rcases hr with hr | rfl | rfl <;> first | exact hxf r hr | exact hfit | exact .scalar hkey.1 hkv
       ·
        simp only [List.length_append, List.length_cons, List.length_nil, Nat.add_mul]; omega
       ·
        simp only [List.length_append, List.length_cons, List.length_nil, Nat.add_mul]; omega
      ·
       have hs := hs.front .t3
       have hs := hs.front .t2
       have hs := hs.front .t2
       refine k_spec [pt fb 56 3 (fC left2 a2), rowL a2 9 (ns2.map Value.string), hold R] (hT j R (fun w h => (hR w h).all j hjm) (hSk _ hjm) fb left2 a2 ns2 (level + 1) _ (by omega) (by omega) (by omega) (by omega) (by omega)) hs (.cons rfl (.cons rfl (.cons rfl (.cons rfl .nil)))) rfl ?_
       rintro _ _ _ ⟨⟨tj, kj⟩, left3, a3, ns3, rfl, hfit, hsz, hl4, hl5, hn3, _, rfl⟩ hs
       refine WL_th ⟨⟨hs.cell .t8, hs.cell .t5, hs.now .t3, pt_cell (hs.cell .t6) 4 (by decide)⟩, ?_⟩
       refine h_two 1 16 rfl rfl (ls' := #[true, true, true, true, true, true, true, true, true, true, true, true, true, true, true, true, false, false, false, false]) (ls'' := #[true, false, true, true, true, true, true, true, true, true, true, true, true, true, true, true, true, false, false, false]) (by kernel_rfl) ?_ ?_
       ·
        refine k_ld hs rfl .t6 rfl rfl ?_
        refine WL_th ⟨⟨hs.cell .t8, hs.cell .t5, hs.now .t3, pt_cell (hs.cell .t6) 4 (by decide)⟩, ?_⟩
        refine h_one 16 rfl (ls' := #[true, true, true, true, true, true, true, true, true, true, true, true, true, true, true, true, true, false, false, false]) (by kernel_rfl) ?_
        refine k_bs hs (.agg rfl (.agg rfl .nil)) rfl rfl rfl ?_
        intro b77 _ hs
        have hs := hs.imp .head (pt_to (g := recs 6 (fun r : TT => tc r.t) [TT.mk tk [], TT.mk tj kj]) (recs_two6 (.mk tk []) (.mk tj kj)))
        refine WL_th ⟨⟨hs.cell .t9, hs.cell .t6, hs.now .t4, pt_cell (hs.cell .t7) 4 (by decide)⟩, ?_⟩
        refine h_one 17 rfl (ls' := #[true, true, true, true, true, true, true, true, true, true, true, true, true, true, true, true, true, true, false, false]) (by kernel_rfl) ?_
        have honej := (hs.now (R := fun w => RepT w (.mk tj kj)) .t3).kids.one
        have hs := hs.front .t5
        refine k_app (n := ts.length) hs rfl rfl .head rfl (one_two6 (r := .mk tk []) (s := .mk tj kj) (by show tk.kids.oneCell' = true; rw [hkz]; rfl) honej) (by omega) (by omega) rfl ?_
        intro v78 _ hs
        have hs := hs.imp .head (rowT_snoc2 (r := .mk tk []) (s := .mk tj kj))
        refine WL_th ⟨⟨hs.cell .t9, hs.cell .t6, hs.now .t5, pt_cell (hs.cell .t7) 4 (by decide)⟩, ?_⟩
        refine h_pu 18 rfl (ls' := #[true, true, true, true, true, true, true, true, true, true, true, true, true, true, true, true, true, true, true, false]) (by kernel_rfl) (fun _ _ _ h => h) rfl ⟨hs.cell .t9, hs.cell .t6, hs.now .t5, pt_cell (hs.cell .t7) 4 (by decide)⟩ (p_field rfl) ?_
        refine h_one 19 rfl (ls' := #[true, true, true, true, true, true, true, true, true, true, true, true, true, true, true, true, true, true, true, true]) (by kernel_rfl) ?_
        refine k_st hs rfl rfl .t7 (row_one (hs.pick .head)) rfl ?_
        intro _ hs
        refine WL_th ⟨⟨hs.cell .t9, hs.cell .t6, hs.now .t5, pt_cell (hs.cell .t7) 4 (by decide)⟩, ?_⟩
        refine h_done (by kernel_rfl) ?_
        show W _ _ _ _ _ _
        refine W_forget (Ext.cd 0 rfl (Ext.cd 3 rfl (Ext.cd 6 rfl (Ext.cd 7 rfl (Ext.cd 10 rfl (Ext.cd 11 rfl (Ext.cd 12 rfl (Ext.nil _)))))))) ?_
        refine W_exit ?_
        show W _ _ _ _ _ _
        refine W_reg ?_
        refine s_pu (p_move rfl) rfl ?_
        refine s_pu (p_move rfl) rfl ?_
        refine s_pu (p_addI rfl rfl ?_) rfl ?_
        ·
         (show _ ≤ ((ts.length:Nat):Int) + 2 ∧ ((ts.length:Nat):Int) + 2 ≤ _; omega)
        refine s_pu (p_assign rfl) rfl ?_
        refine WL_th ?_
        have hs := hs.front .t10
        have hs := hs.front .t10
        have hs := hs.front .t7
        have hs := hs.front .t6
        have hs := hs.front .t6
        have hs := hs.front .t10
        have hs := hs.front .t8
        have hs := hs.front .t7
        have hs := hs.front .t10
        have hs := St.cut (G1 := [_, _, _, _, _, _, _, _, _]) hs
        have hs := hs.imp .head (pt_to (g := tc ⟨3, ovalue, oanchor, otag, st, v78⟩) (by repeat (first | exact below_zero | refine below_succ ?_ rfl)))
        have hs := hs.front .t2
        have hs := hs.front .t3
        have hs := hs.hold_and
        have hs := hs.hold_imp (R' := fun w => ∀ r ∈ ts ++ [TT.mk tk [], TT.mk tj kj], RepT w r) (fun w h r hr => by simp only [List.mem_append, List.mem_cons, List.not_mem_nil, or_false] at hr; rcases hr with hr | rfl | rfl <;> first | exact h.1 r hr | exact h.2 | exact .mk (.empty hkz) (by simp))
        have hs := hs.front .t2
        have hs := hs.front .t2
        refine ⟨(ts ++ [TT.mk tk [], TT.mk tj kj], v78, left3, a3, ns3), (Ext.cons rfl (Ext.cons rfl (Ext.cons rfl (Ext.cons rfl (Ext.cons rfl (Ext.cons rfl (Ext.cons (by show some (Value.int .i64 ((ts.length : Int) + 2)) = _; simp) (Ext.nil _)))))))), ⟨by simp; omega, ?_, ?_, ⟨xq + 1, by simp; omega⟩, keys_snoc2 hxq hxk hkey, ?_, by simp only; omega, ?_, hs⟩, by simp; omega⟩
        ·
         simp only [List.length_append, List.length_cons, List.length_nil, tsizes_app, tsizes, Nat.add_mul]; simp only [TT.size, tsizes] at hsz ⊢; have := one_le_szS d; omega
        ·
         intro r hr; simp only [List.mem_append, List.mem_cons, List.not_mem_nil, or_false] at hr; rcases hr with hr | rfl | rfl <;> first | exact hxf r hr | exact hfit | exact .scalar hkey.1 hkv
        ·
         simp only [List.length_append, List.length_cons, List.length_nil, Nat.add_mul]; omega
        ·
         simp only [List.length_append, List.length_cons, List.length_nil, Nat.add_mul]; omega
       ·
        refine k_bs hs (.agg rfl (.agg rfl .nil)) rfl rfl rfl ?_
        intro b77 _ hs
        have hs := hs.imp .head (pt_to (g := recs 6 (fun r : TT => tc r.t) [TT.mk tk [], TT.mk tj kj]) (recs_two6 (.mk tk []) (.mk tj kj)))
        refine WL_th ⟨⟨hs.cell .t9, hs.cell .t6, hs.now .t4, pt_cell (hs.cell .t7) 4 (by decide)⟩, ?_⟩
        refine h_one 1 rfl (ls' := #[true, true, true, true, true, true, true, true, true, true, true, true, true, true, true, true, true, false, false, false]) (by kernel_rfl) ?_
        refine k_ld hs rfl .t7 rfl rfl ?_
        refine WL_th ⟨⟨hs.cell .t9, hs.cell .t6, hs.now .t4, pt_cell (hs.cell .t7) 4 (by decide)⟩, ?_⟩
        refine h_one 17 rfl (ls' := #[true, true, true, true, true, true, true, true, true, true, true, true, true, true, true, true, true, true, false, false]) (by kernel_rfl) ?_
        have honej := (hs.now (R := fun w => RepT w (.mk tj kj)) .t3).kids.one
        have hs := hs.front .t5
        refine k_app (n := ts.length) hs rfl rfl .head rfl (one_two6 (r := .mk tk []) (s := .mk tj kj) (by show tk.kids.oneCell' = true; rw [hkz]; rfl) honej) (by omega) (by omega) rfl ?_
        intro v78 _ hs
        have hs := hs.imp .head (rowT_snoc2 (r := .mk tk []) (s := .mk tj kj))
        refine WL_th ⟨⟨hs.cell .t9, hs.cell .t6, hs.now .t5, pt_cell (hs.cell .t7) 4 (by decide)⟩, ?_⟩
        refine h_pu 18 rfl (ls' := #[true, true, true, true, true, true, true, true, true, true, true, true, true, true, true, true, true, true, true, false]) (by kernel_rfl) (fun _ _ _ h => h) rfl ⟨hs.cell .t9, hs.cell .t6, hs.now .t5, pt_cell (hs.cell .t7) 4 (by decide)⟩ (p_field rfl) ?_
        refine h_one 19 rfl (ls' := #[true, true, true, true, true, true, true, true, true, true, true, true, true, true, true, true, true, true, true, true]) (by kernel_rfl) ?_
        refine k_st hs rfl rfl .t7 (row_one (hs.pick .head)) rfl ?_
        intro _ hs
        refine WL_th ⟨⟨hs.cell .t9, hs.cell .t6, hs.now .t5, pt_cell (hs.cell .t7) 4 (by decide)⟩, ?_⟩
        refine h_done (by kernel_rfl) ?_
        show W _ _ _ _ _ _
        refine W_forget (Ext.cd 0 rfl (Ext.cd 3 rfl (Ext.cd 6 rfl (Ext.cd 7 rfl (Ext.cd 10 rfl (Ext.cd 11 rfl (Ext.cd 12 rfl (Ext.nil _)))))))) ?_
        refine W_exit ?_
        show W _ _ _ _ _ _
        refine W_reg ?_
        refine s_pu (p_move rfl) rfl ?_
        refine s_pu (p_move rfl) rfl ?_
        refine s_pu (p_addI rfl rfl ?_) rfl ?_
        ·
         (show _ ≤ ((ts.length:Nat):Int) + 2 ∧ ((ts.length:Nat):Int) + 2 ≤ _; omega)
        refine s_pu (p_assign rfl) rfl ?_
        refine WL_th ?_
        have hs := hs.front .t10
        have hs := hs.front .t10
        have hs := hs.front .t7
        have hs := hs.front .t6
        have hs := hs.front .t6
        have hs := hs.front .t10
        have hs := hs.front .t8
        have hs := hs.front .t7
        have hs := hs.front .t10
        have hs := St.cut (G1 := [_, _, _, _, _, _, _, _, _]) hs
        have hs := hs.imp .head (pt_to (g := tc ⟨3, ovalue, oanchor, otag, st, v78⟩) (by repeat (first | exact below_zero | refine below_succ ?_ rfl)))
        have hs := hs.front .t2
        have hs := hs.front .t3
        have hs := hs.hold_and
        have hs := hs.hold_imp (R' := fun w => ∀ r ∈ ts ++ [TT.mk tk [], TT.mk tj kj], RepT w r) (fun w h r hr => by simp only [List.mem_append, List.mem_cons, List.not_mem_nil, or_false] at hr; rcases hr with hr | rfl | rfl <;> first | exact h.1 r hr | exact h.2 | exact .mk (.empty hkz) (by simp))
        have hs := hs.front .t2
        have hs := hs.front .t2
        refine ⟨(ts ++ [TT.mk tk [], TT.mk tj kj], v78, left3, a3, ns3), (Ext.cons rfl (Ext.cons rfl (Ext.cons rfl (Ext.cons rfl (Ext.cons rfl (Ext.cons rfl (Ext.cons (by show some (Value.int .i64 ((ts.length : Int) + 2)) = _; simp) (Ext.nil _)))))))), ⟨by simp; omega, ?_, ?_, ⟨xq + 1, by simp; omega⟩, keys_snoc2 hxq hxk hkey, ?_, by simp only; omega, ?_, hs⟩, by simp; omega⟩
        ·
         simp only [List.length_append, List.length_cons, List.length_nil, tsizes_app, tsizes, Nat.add_mul]; simp only [TT.size, tsizes] at hsz ⊢; have := one_le_szS d; omega
        ·
         intro r hr; simp only [List.mem_append, List.mem_cons, List.not_mem_nil, or_false] at hr; rcases hr with hr | rfl | rfl <;> first | exact hxf r hr | exact hfit | exact .scalar hkey.1 hkv
        ·
         simp only [List.length_append, List.length_cons, List.length_nil, Nat.add_mul]; omega
        ·
         simp only [List.length_append, List.length_cons, List.length_nil, Nat.add_mul]; omega
    ·
     refine W_exit ?_
     show W _ _ _ _ _ _
     refine W_join (fun e' w' => ∃ (st2 : Int), Ext e' (upd (upd emp 10 (.pointer (some ⟨b10, 0, none⟩))) 6 (.pointer (some ⟨b6, 0, none⟩))) ∧ St wI S w' [pt b6 24 6 (tc ⟨3, ovalue, oanchor, otag, st2, v1⟩), rowT v1 ts, hold (fun w => ∀ r ∈ ts, RepT w r), pt fb 56 3 (fC left1 a1), rowL a1 9 (ns1.map Value.string), hold R, pt b7 24 6 (tc ⟨kind, value, anchor, tag, style, .slice ad kids.length cap⟩), pt b10 24 6 z10]) ?_ ?_
     ·
      refine W_sr ?_
      refine s_pu (p_field rfl) rfl ?_
      refine k_ld hs rfl .head rfl rfl ?_
      obtain ⟨ad1, cap1, hv1⟩ := (show ∃ ad cap, v1 = .slice ad ts.length cap by obtain ⟨S1, h1⟩ := hs.pick .t1; exact rowT_val h1)
      refine s_pu (p_lenL (ad := ad1) (l := ts.length) (c := cap1) (by show some v1 = _; rw [hv1])) rfl ?_
      refine s_pu (p_eqI rfl rfl) rfl ?_
      refine WL_th ?_
      refine W_if rfl (fun h109 => ?_) (fun h109 => ?_)
      ·
       refine W_reg ?_
       refine s_pu (p_field rfl) rfl ?_
       refine k_st hs rfl rfl .head rfl rfl ?_
       intro _ hs
       refine WL_th ?_
       have hs := hs.front .t7
       have hs := hs.front .t7
       have hs := hs.front .t7
       have hs := hs.front .t7
       have hs := hs.front .t7
       have hs := hs.front .t7
       have hs := hs.front .t7
       have hs := hs.front .t7
       have hs := St.cut (G1 := [_, _, _, _, _, _, _, _]) hs
       have hs := hs.imp .head (pt_to (g := tc ⟨3, ovalue, oanchor, otag, 2, v1⟩) (by repeat (first | exact below_zero | refine below_succ ?_ rfl)))
       exact ⟨2, (Ext.cons rfl (Ext.cons rfl (Ext.nil _))), hs⟩
      ·
       refine W_skip_th ?_
       have hs := hs.front .t7
       have hs := hs.front .t7
       have hs := hs.front .t7
       have hs := hs.front .t7
       have hs := hs.front .t7
       have hs := hs.front .t7
       have hs := hs.front .t7
       have hs := hs.front .t7
       have hs := St.cut (G1 := [_, _, _, _, _, _, _, _]) hs
       exact ⟨st, (Ext.cons rfl (Ext.cons rfl (Ext.nil _))), hs⟩
     ·
      rintro e3 w3 ⟨st2, hx, hs⟩
      refine W_forget hx ?_
      clear hx
      refine W_join (fun e' w' => ∃ (o3 : TRec), o3.kind = 3 ∧ o3.anchor = oanchor ∧ o3.kids = v1 ∧ Ext e' (upd (upd emp 10 (.pointer (some ⟨b10, 0, none⟩))) 6 (.pointer (some ⟨b6, 0, none⟩))) ∧ St wI S w' [pt b6 24 6 (tc o3), rowT v1 ts, hold (fun w => ∀ r ∈ ts, RepT w r), pt fb 56 3 (fC left1 a1), rowL a1 9 (ns1.map Value.string), hold R, pt b7 24 6 (tc ⟨kind, value, anchor, tag, style, .slice ad kids.length cap⟩), pt b10 24 6 z10]) ?_ ?_
      ·
       refine W_sr ?_
       refine s_pu (p_field rfl) rfl ?_
       refine k_ld hs rfl .head rfl rfl ?_
       refine s_pu (p_eqI rfl rfl) rfl ?_
       refine WL_th ?_
       refine W_if rfl (fun h113 => ?_) (fun h113 => ?_)
       ·
        refine W_reg ?_
        refine s_pu (p_field rfl) rfl ?_
        refine k_st hs rfl rfl .head rfl rfl ?_
        intro _ hs
        refine WL_th ?_
        have hs := hs.front .t7
        have hs := hs.front .t7
        have hs := hs.front .t7
        have hs := hs.front .t7
        have hs := hs.front .t7
        have hs := hs.front .t7
        have hs := hs.front .t7
        have hs := hs.front .t7
        have hs := St.cut (G1 := [_, _, _, _, _, _, _, _]) hs
        have hs := hs.imp .head (pt_to (g := tc ⟨3, ovalue, oanchor, ⟨#[]⟩, st2, v1⟩) (by repeat (first | exact below_zero | refine below_succ ?_ rfl)))
        exact ⟨_, rfl, rfl, rfl, (Ext.cons rfl (Ext.cons rfl (Ext.nil _))), hs⟩
       ·
        refine W_skip_th ?_
        have hs := hs.front .t7
        have hs := hs.front .t7
        have hs := hs.front .t7
        have hs := hs.front .t7
        have hs := hs.front .t7
        have hs := hs.front .t7
        have hs := hs.front .t7
        have hs := hs.front .t7
        have hs := St.cut (G1 := [_, _, _, _, _, _, _, _]) hs
        exact ⟨_, rfl, rfl, rfl, (Ext.cons rfl (Ext.cons rfl (Ext.nil _))), hs⟩
      ·
       rintro e4 w4 ⟨o3, ho1, ho2, ho3, hx, hs⟩
       refine W_forget hx ?_
       clear hx
       refine W_sr ?_
       refine k_ldW hs rfl .head rfl ?_
       refine k_stW hs rfl rfl .t7 (tc_one (by rw [ho3]; exact row_one (hs.pick .t1))) ?_
       intro _ hs
       refine WL_th ?_
       refine W_ret ?_
       refine ret_cell (fn := Tryz.f28) (n := 6) rfl rfl hs .t7 ?_
       have hs := hs.front .t2
       have hs := hs.front .t2
       have hs := MW.St.seal_trees (t := o3) (rs := ts) (v := v1) hs ho3
       have hs := hs.front .t4
       have hs := hs.front .t1
       have hs := hs.front .t4
       have hs := hs.front .t4
       have hs := St.cut (G1 := [_, _, _, _]) hs
       exact hs.spec ⟨.mk o3 ts, left1, a1, ns1, rfl, (.pairs ho1 hxf hxk), ho1, ho2, by simp only [TT.size]; omega, by omega, hxl2, by omega, rfl⟩
end Go.Proofs.YtmalghopogngoaaGreatDoor
set_option linter.unusedVariables false
set_option linter.unusedSimpArgs false
set_option maxRecDepth 4000
namespace Go.Proofs.YtmalghopogngoaaGreatDoor
open Go Go.RowKit MW
theorem rowL_str {v : Value} {T : Nat} {xs : List ByteArray} {s : ByteArray} (w : World) (S : Foot) (h : (rowL v T (xs.map Value.string ++ [.string s])).on w S) : (rowL v T ((xs ++ [s]).map Value.string)).on w S := by
 rw [List.map_append]
 exact h
theorem rowL_at {w : World} {S : Foot} {v x : Value} {T n cap b i : Nat} {l : List Value} (h : (rowL v T l).on w S) (hv : v = .slice (some ⟨b, 0, none⟩) n cap) (hx : l[i]? = some x) : w.cell? ⟨b, 0 + i * 1, none⟩ = some x := by
 obtain ⟨ad2, cap2, hv2, hall2⟩ := rowL_cell h
 obtain ⟨b2, hb2, hc2⟩ := hall2 i x hx
 rw [hb2] at hv2
 rw [hv] at hv2
 simp only [Value.slice.injEq, Option.some.injEq, Addr.mk.injEq] at hv2
 obtain ⟨⟨rfl, _⟩, _⟩ := hv2
 exact hc2
theorem c_fcoll (d : Nat) (hT : TreeOK d) (o : TRec) (hok : o.kind = 2 ∨ o.kind = 3) (hoz : o.kids = .slice none 0 0) (tt : TT) (R : World → Prop) (hR : ∀ w, R w → RepT w tt) (hS : Small tt) (fb : Nat) (left : Int) (a : Value) (ns : List ByteArray) (level : Int) (flow : Bool) (hl : level + 1 = 5 - (d : Int)) (hl0 : 0 ≤ level) (h1 : left - 6 * szS d ≥ -1000000) (h2 : left ≤ 1000) (h3 : ns.length + 6 * szS d ≤ 1000000) :
  MW.Spec Tryz.prog 28 [.pointer (some ⟨fb, 0, none⟩), .agg (mkA 6 (tc o)), .agg (mkA 6 (tc tt.t)), .int .i64 level, .bool flow].toArray [pt fb 56 3 (fC left a), rowL a 9 (ns.map Value.string), hold R] (CollR o d fb left ns.length R) := by
 rcases hok with h | h
 ·
  exact c_flist d hT o h hoz tt R hR hS fb left a ns level flow hl hl0 h1 h2 h3
 ·
  exact c_fpairs d hT o h hoz tt R hR hS fb left a ns level flow hl hl0 h1 h2 h3
theorem c_tree1 {T : ByteArray → Prop} (hKn : KnownOK T) (hMW : MayWordOK) (d : Nat) (hT : ∀ d', d = d' + 1 → TreeOK d') : TreeOK d := by
 intro tt R hR hS fb left a ns level flow hlev hl0 h1 h2 h3
 intro wI S hsat
 have hs := St.start hsat
 obtain ⟨⟨kind, value, anchor, tag, style, kv⟩, kids⟩ := tt
 have hsz0 := one_le_szS d
 obtain ⟨hva, han, htg⟩ : value.size ≤ 100000000 ∧ anchor.size ≤ 100000000 ∧ tag.size ≤ 100000000 := by cases hS with | mk s1 s2 s3 s4 s5 => exact ⟨s1, s2, s3⟩
 have m1 := md_lt (x := kind) (n := 4) (by decide)
 have m2 := md_ge (x := kind) (n := 4) (by decide)
 have m3 := md_lt (x := md kind 4 - 1) (n := 4) (by decide)
 have m4 := md_ge (x := md kind 4 - 1) (n := 4) (by decide)
 have m5 := md_lt (x := style) (n := 5) (by decide)
 have m6 := md_ge (x := style) (n := 5) (by decide)
 have m7 := md_lt (x := md style 5 - 1) (n := 5) (by decide)
 have m8 := md_ge (x := md style 5 - 1) (n := 5) (by decide)
 refine calls_W (args := [_, _, _, _]) Tryz.func15 rfl Tryz.ntmps15 rfl ?_
 refine W_sr ?_
 refine k_box hs rfl rfl ?_
 intro b5 _ hs
 refine k_alloc hs rfl ?_
 intro b8 _ hs
 refine WL_th ?_
 refine W_sr ?_
 refine s_pu (p_move rfl) rfl ?_
 refine s_pu (p_nilCheck rfl) rfl ?_
 refine s_pu (p_field rfl) rfl ?_
 refine k_ld hs rfl .t2 rfl rfl ?_
 refine s_pu (p_subI rfl rfl (show _ ≤ left - 1 ∧ left - 1 ≤ _ by omega)) rfl ?_
 refine s_pu (p_nilCheck rfl) rfl ?_
 refine s_pu (p_field rfl) rfl ?_
 refine k_st hs rfl rfl .t2 rfl rfl ?_
 intro _ hs
 have hs := hs.imp .t2 (pt_to (g := fC (left - 1) a) (by repeat (first | exact below_zero | refine below_succ ?_ rfl)))
 refine WL_th ?_
 refine W_sr ?_
 refine s_pu (p_field rfl) rfl ?_
 refine k_ld hs rfl .t1 rfl rfl ?_
 refine k_quiet (c_modulo _ 4 (by decide) (by decide) _) hs (.cons rfl (.cons rfl .nil)) rfl ?_
 rintro _ _ rfl hs _
 refine s_pu (p_subI rfl rfl ?_) rfl ?_
 ·
  (show _ ≤ md kind 4 - 1 ∧ md kind 4 - 1 ≤ _; omega)
 refine k_quiet (c_modulo _ 4 (by decide) (by decide) _) hs (.cons rfl (.cons rfl .nil)) rfl ?_
 rintro _ _ rfl hs _
 refine s_pu (p_addI rfl rfl ?_) rfl ?_
 ·
  (show _ ≤ 1 + md (md kind 4 - 1) 4 ∧ 1 + md (md kind 4 - 1) 4 ≤ _; omega)
 refine s_pu (p_st (.one rfl rfl rfl .nil)) rfl ?_
 refine k_alloc hs rfl ?_
 intro b9 _ hs
 refine k_stW hs rfl rfl .head (by repeat (first | exact below_zero | refine below_succ ?_ rfl)) ?_
 intro _ hs
 have hs := hs.imp .head (pt_to (g := tc ⟨1 + md (md kind 4 - 1) 4, ⟨#[]⟩, ⟨#[]⟩, ⟨#[]⟩, 0, .slice none 0 0⟩) (by repeat (first | exact below_zero | refine below_succ ?_ rfl)))
 have hs := hs.imp .t1 (pt_to (g := tc ⟨0, ⟨#[]⟩, ⟨#[]⟩, ⟨#[]⟩, 0, .slice none 0 0⟩) (by repeat (first | exact below_zero | refine below_succ ?_ rfl)))
 generalize hkk : 1 + md (md kind 4 - 1) 4 = k at hs
 have hkey1 : md kind 4 = 1 → k = 1 := fun h => by rw [← hkk, h]; rfl
 have hk14 : 1 ≤ k ∧ k ≤ 4 := by omega
 have hs := hs.front .t5
 have hs := hs.front .t5
 have hs := hs.front .t5
 have hs := hs.front .t5
 have hs := hs.front .t5
 have hs := hs.front .t5
 refine WL_th ?_
 refine W_forget (Ext.cd 0 rfl (Ext.cd 2 rfl (Ext.cd 3 rfl (Ext.cd 5 rfl (Ext.cd 8 rfl (Ext.cd 9 rfl (Ext.nil _))))))) ?_
 refine W_seq ?_
 refine W_sr ?_
 refine s_pu (p_field rfl) rfl ?_
 refine k_ld hs rfl .head rfl rfl ?_
 refine s_pu (p_eqI rfl rfl) rfl ?_
 refine s_pu (p_move rfl) rfl ?_
 refine WL_cutw 3 30 [0, 2, 3, 5, 8, 9] (fun b => b = true → k = 4) (fun w => St wI S w [pt b9 24 6 (tc ⟨k, ⟨#[]⟩, ⟨#[]⟩, ⟨#[]⟩, 0, .slice none 0 0⟩), pt b8 24 6 (tc ⟨0, ⟨#[]⟩, ⟨#[]⟩, ⟨#[]⟩, 0, .slice none 0 0⟩), pt b5 24 6 (tc ⟨kind, value, anchor, tag, style, kv⟩), pt fb 56 3 (fC (left - 1) a), rowL a 9 (ns.map Value.string), hold R]) ?_ ?_
 ·
  refine s_bool 27 rfl (fun hb27 => ?_) (fun hb27 => ?_)
  ·
   refine g_take rfl rfl rfl ?_
   refine s_pu (p_move rfl) rfl ?_
   refine g_take rfl rfl rfl ?_
   refine k_quiet (c_has fb _ _ 8 (by decide) _ (hs.cell .t3)) hs (.cons rfl (.cons rfl .nil)) rfl ?_
   rintro _ _ rfl hs _
   refine s_pu (p_pickT rfl rfl) rfl ?_
   refine WL_th ⟨hs, _, ?_, Ext.cons rfl (ext_kd rfl rfl (ext_kd rfl rfl (ext_kd rfl rfl (ext_kd rfl rfl (ext_kd rfl rfl (ext_kd rfl rfl ext_kn))))))⟩
   exact fun _ => eq_of_beq hb27
  ·
   refine g_skip rfl rfl rfl rfl rfl ?_
   refine g_skip rfl rfl rfl rfl rfl ?_
   refine s_pu (p_pickF rfl rfl) rfl ?_
   refine WL_th ⟨hs, _, ?_, Ext.cons rfl (ext_kd rfl rfl (ext_kd rfl rfl (ext_kd rfl rfl (ext_kd rfl rfl (ext_kd rfl rfl (ext_kd rfl rfl ext_kn))))))⟩
   exact fun h => by cases h
 ·
  intro w30 b30 hs hb30
  refine WL_forget (Ext.cd 0 rfl (Ext.cd 2 rfl (Ext.cd 3 rfl (Ext.cd 5 rfl (Ext.cd 8 rfl (Ext.cd 9 rfl (Ext.cd 30 rfl (Ext.nil _)))))))) ?_
  show WL _ _ _ (_ :: _) _ _ _
  refine s_pu (p_move rfl) rfl ?_
  refine WL_cutb 7 38 [0, 2, 3, 5, 8, 9] (fun b => b = true → k = 4 ∧ 0 < ns.length) ?_ ?_
  ·
   refine s_bool 31 rfl (fun hb31 => ?_) (fun hb31 => ?_)
   ·
    refine g_take rfl rfl rfl ?_
    refine s_pu (p_move rfl) rfl ?_
    refine g_take rfl rfl rfl ?_
    refine s_pu (p_nilCheck rfl) rfl ?_
    refine g_take rfl rfl rfl ?_
    refine s_pu (p_field rfl) rfl ?_
    refine g_take rfl rfl rfl ?_
    refine k_ld hs rfl .t3 rfl rfl ?_
    refine g_take rfl rfl rfl ?_
    obtain ⟨S1, hrow1⟩ := hs.pick .t4
    obtain ⟨ad1, cap1, hv1, _⟩ := rowL_cell hrow1
    refine s_pu (p_lenL (ad := ad1) (l := (ns.map Value.string).length) (c := cap1) (by show some a = _; rw [hv1])) rfl ?_
    refine g_take rfl rfl rfl ?_
    refine s_pu (p_gtI rfl rfl) rfl ?_
    refine s_pu (p_pickT rfl rfl) rfl ?_
    refine WL_th ⟨rfl, _, ?_, Ext.cons rfl (ext_kd rfl rfl (ext_kd rfl rfl (ext_kd rfl rfl (ext_kd rfl rfl (ext_kd rfl rfl (ext_kd rfl rfl ext_kn))))))⟩
    exact fun h => ⟨hb30 hb31, by have := of_decide_eq_true h; simpa using this⟩
   ·
    refine g_skip rfl rfl rfl rfl rfl ?_
    refine g_skip rfl rfl rfl rfl rfl ?_
    refine g_skip rfl rfl rfl rfl rfl ?_
    refine g_skip rfl rfl rfl rfl rfl ?_
    refine g_skip rfl rfl rfl rfl rfl ?_
    refine g_skip rfl rfl rfl rfl rfl ?_
    refine s_pu (p_pickF rfl rfl) rfl ?_
    refine WL_th ⟨rfl, _, ?_, Ext.cons rfl (ext_kd rfl rfl (ext_kd rfl rfl (ext_kd rfl rfl (ext_kd rfl rfl (ext_kd rfl rfl (ext_kd rfl rfl ext_kn))))))⟩
    exact fun h => by cases h
  ·
   intro b38 hb38
   refine WL_forget (Ext.cd 0 rfl (Ext.cd 2 rfl (Ext.cd 3 rfl (Ext.cd 5 rfl (Ext.cd 8 rfl (Ext.cd 9 rfl (Ext.cd 38 rfl (Ext.nil _)))))))) ?_
   show WL _ _ _ [] _ _ _
   refine WL_th ?_
   refine W_if rfl (fun h38 => ?_) (fun h38 => ?_)
   ·
    obtain ⟨hk4, hns0⟩ := hb38 h38
    obtain ⟨S1, hrow1⟩ := hs.pick .t4
    obtain ⟨ad1, cap1, hv1, hall1⟩ := rowL_cell hrow1
    obtain ⟨i0, hi0⟩ : ∃ i0, i0 = (((value.size : Int) + (anchor.size : Int)).tmod ((ns.map Value.string).length : Int)).toNat := ⟨_, rfl⟩
    have hl0 : ((ns.map Value.string).length : Int) = ns.length := by simp
    have hr1 := Int.tmod_lt_of_pos ((value.size : Int) + (anchor.size : Int)) (show (0 : Int) < ((ns.map Value.string).length : Int) by omega)
    have hr2 := Int.tmod_nonneg ((ns.map Value.string).length : Int) (show (0 : Int) ≤ (value.size : Int) + (anchor.size : Int) by omega)
    have hlt0 : i0 < ns.length := by omega
    obtain ⟨nm, hnm⟩ : ∃ nm, ns[i0]? = some nm := ⟨_, List.getElem?_eq_getElem hlt0⟩
    have hnm2 : (ns.map Value.string)[i0]? = some (.string nm) := by rw [List.getElem?_map, hnm]; rfl
    obtain ⟨b0, hb0, _⟩ := hall1 i0 _ hnm2
    subst hb0
    refine W_seq ?_
    refine h_start (S := fun w => w.heap[b5]? = some (.cells (mkA 6 (tc ⟨kind, value, anchor, tag, style, kv⟩)) 24 (0, 0)) ∧ w.heap[fb]? = some (.cells (mkA 3 (fC (left - 1) a)) 56 (0, 0)) ∧ w.cell? ⟨b0, 0 + i0 * 1, none⟩ = some (.string nm)) (ls := #[false, false, false, false, false, false, false, false, false, false, false, false, false, false, false, false, false, false, false, false, false]) (n := 21) (by kernel_rfl) (by kernel_rfl) ?_
    have hs := hs.drew
    refine h_pu 0 rfl (ls' := #[true, false, false, false, false, false, false, false, false, false, false, false, false, false, false, false, false, false, false, false, false]) (by kernel_rfl) (fun _ _ _ h => h) rfl ⟨hs.cell .t2, hs.cell .t3, (by obtain ⟨S1, hrow1⟩ := hs.pick .t4; exact rowL_at hrow1 hv1 hnm2)⟩ (p_move rfl) ?_
    refine h_pu 1 rfl (ls' := #[true, true, false, false, false, false, false, false, false, false, false, false, false, false, false, false, false, false, false, false, false]) (by kernel_rfl) (fun _ _ _ h => h) rfl ⟨hs.cell .t2, hs.cell .t3, (by obtain ⟨S1, hrow1⟩ := hs.pick .t4; exact rowL_at hrow1 hv1 hnm2)⟩ (p_nilCheck rfl) ?_
    refine h_pu 2 rfl (ls' := #[true, true, true, false, false, false, false, false, false, false, false, false, false, false, false, false, false, false, false, false, false]) (by kernel_rfl) (fun _ _ _ h => h) rfl ⟨hs.cell .t2, hs.cell .t3, (by obtain ⟨S1, hrow1⟩ := hs.pick .t4; exact rowL_at hrow1 hv1 hnm2)⟩ (p_field rfl) ?_
    refine h_take 3 rfl (ls' := #[true, true, true, true, false, false, false, false, false, false, false, false, false, false, false, false, false, false, false, false, false]) (by kernel_rfl) (fun _ _ _ h => h) rfl ⟨hs.cell .t2, hs.cell .t3, (by obtain ⟨S1, hrow1⟩ := hs.pick .t4; exact rowL_at hrow1 hv1 hnm2)⟩ (fun w hw => q_ld rfl hw.2.1 rfl) ?_
    refine h_pu 4 rfl (ls' := #[true, true, true, true, true, false, false, false, false, false, false, false, false, false, false, false, false, false, false, false, false]) (by kernel_rfl) (fun _ _ _ h => h) rfl ⟨hs.cell .t2, hs.cell .t3, (by obtain ⟨S1, hrow1⟩ := hs.pick .t4; exact rowL_at hrow1 hv1 hnm2)⟩ (p_field rfl) ?_
    refine h_take 5 rfl (ls' := #[true, true, true, true, true, true, false, false, false, false, false, false, false, false, false, false, false, false, false, false, false]) (by kernel_rfl) (fun _ _ _ h => h) rfl ⟨hs.cell .t2, hs.cell .t3, (by obtain ⟨S1, hrow1⟩ := hs.pick .t4; exact rowL_at hrow1 hv1 hnm2)⟩ (fun w hw => q_ld rfl hw.1 rfl) ?_
    refine h_pu 6 rfl (ls' := #[true, true, true, true, true, true, true, false, false, false, false, false, false, false, false, false, false, false, false, false, false]) (by kernel_rfl) (fun _ _ _ h => h) rfl ⟨hs.cell .t2, hs.cell .t3, (by obtain ⟨S1, hrow1⟩ := hs.pick .t4; exact rowL_at hrow1 hv1 hnm2)⟩ (p_lenS (by kernel_rfl) rfl) ?_
    refine h_pu 7 rfl (ls' := #[true, true, true, true, true, true, true, true, false, false, false, false, false, false, false, false, false, false, false, false, false]) (by kernel_rfl) (fun _ _ _ h => h) rfl ⟨hs.cell .t2, hs.cell .t3, (by obtain ⟨S1, hrow1⟩ := hs.pick .t4; exact rowL_at hrow1 hv1 hnm2)⟩ (p_field rfl) ?_
    refine h_take 8 rfl (ls' := #[true, true, true, true, true, true, true, true, true, false, false, false, false, false, false, false, false, false, false, false, false]) (by kernel_rfl) (fun _ _ _ h => h) rfl ⟨hs.cell .t2, hs.cell .t3, (by obtain ⟨S1, hrow1⟩ := hs.pick .t4; exact rowL_at hrow1 hv1 hnm2)⟩ (fun w hw => q_ld rfl hw.1 rfl) ?_
    refine h_pu 9 rfl (ls' := #[true, true, true, true, true, true, true, true, true, true, false, false, false, false, false, false, false, false, false, false, false]) (by kernel_rfl) (fun _ _ _ h => h) rfl ⟨hs.cell .t2, hs.cell .t3, (by obtain ⟨S1, hrow1⟩ := hs.pick .t4; exact rowL_at hrow1 hv1 hnm2)⟩ (p_lenS (by kernel_rfl) rfl) ?_
    refine h_pu 10 rfl (ls' := #[true, true, true, true, true, true, true, true, true, true, true, false, false, false, false, false, false, false, false, false, false]) (by kernel_rfl) (fun _ _ _ h => h) rfl ⟨hs.cell .t2, hs.cell .t3, (by obtain ⟨S1, hrow1⟩ := hs.pick .t4; exact rowL_at hrow1 hv1 hnm2)⟩ (p_addI rfl rfl ?_) ?_
    ·
     (show _ ≤ (value.size : Int) + (anchor.size : Int) ∧ (value.size : Int) + (anchor.size : Int) ≤ _; omega)
    refine h_pu 11 rfl (ls' := #[true, true, true, true, true, true, true, true, true, true, true, true, false, false, false, false, false, false, false, false, false]) (by kernel_rfl) (fun _ _ _ h => h) rfl ⟨hs.cell .t2, hs.cell .t3, (by obtain ⟨S1, hrow1⟩ := hs.pick .t4; exact rowL_at hrow1 hv1 hnm2)⟩ (p_move rfl) ?_
    refine h_pu 12 rfl (ls' := #[true, true, true, true, true, true, true, true, true, true, true, true, true, false, false, false, false, false, false, false, false]) (by kernel_rfl) (fun _ _ _ h => h) rfl ⟨hs.cell .t2, hs.cell .t3, (by obtain ⟨S1, hrow1⟩ := hs.pick .t4; exact rowL_at hrow1 hv1 hnm2)⟩ (p_nilCheck rfl) ?_
    refine h_pu 13 rfl (ls' := #[true, true, true, true, true, true, true, true, true, true, true, true, true, true, false, false, false, false, false, false, false]) (by kernel_rfl) (fun _ _ _ h => h) rfl ⟨hs.cell .t2, hs.cell .t3, (by obtain ⟨S1, hrow1⟩ := hs.pick .t4; exact rowL_at hrow1 hv1 hnm2)⟩ (p_field rfl) ?_
    refine h_take 14 rfl (ls' := #[true, true, true, true, true, true, true, true, true, true, true, true, true, true, true, false, false, false, false, false, false]) (by kernel_rfl) (fun _ _ _ h => h) rfl ⟨hs.cell .t2, hs.cell .t3, (by obtain ⟨S1, hrow1⟩ := hs.pick .t4; exact rowL_at hrow1 hv1 hnm2)⟩ (fun w hw => q_ld rfl hw.2.1 rfl) ?_
    refine h_pu 15 rfl (ls' := #[true, true, true, true, true, true, true, true, true, true, true, true, true, true, true, true, false, false, false, false, false]) (by kernel_rfl) (fun _ _ _ h => h) rfl ⟨hs.cell .t2, hs.cell .t3, (by obtain ⟨S1, hrow1⟩ := hs.pick .t4; exact rowL_at hrow1 hv1 hnm2)⟩ (p_lenL (ad := some ⟨b0, 0, none⟩) (l := (ns.map Value.string).length) (c := cap1) (by show some a = _; rw [hv1])) ?_
    refine h_pu 16 rfl (ls' := #[true, true, true, true, true, true, true, true, true, true, true, true, true, true, true, true, true, false, false, false, false]) (by kernel_rfl) (fun _ _ _ h => h) rfl ⟨hs.cell .t2, hs.cell .t3, (by obtain ⟨S1, hrow1⟩ := hs.pick .t4; exact rowL_at hrow1 hv1 hnm2)⟩ (p_rem rfl rfl ?_) ?_
    ·
     (show ((ns.map Value.string).length : Int) ≠ 0; omega)
    refine h_pu 17 rfl (ls' := #[true, true, true, true, true, true, true, true, true, true, true, true, true, true, true, true, true, true, false, false, false]) (by kernel_rfl) (fun _ _ _ h => h) rfl ⟨hs.cell .t2, hs.cell .t3, (by obtain ⟨S1, hrow1⟩ := hs.pick .t4; exact rowL_at hrow1 hv1 hnm2)⟩ (p_elem (b := b0) (o := 0) (l := (ns.map Value.string).length) (c := cap1) (by show some a = _; rw [hv1]) rfl (by exact hr2) (by exact hr1)) ?_
    refine h_take 18 rfl (ls' := #[true, true, true, true, true, true, true, true, true, true, true, true, true, true, true, true, true, true, true, false, false]) (by kernel_rfl) (fun _ _ _ h => h) rfl ⟨hs.cell .t2, hs.cell .t3, (by obtain ⟨S1, hrow1⟩ := hs.pick .t4; exact rowL_at hrow1 hv1 hnm2)⟩ (fun w hw => m_load1 rfl (by rw [← hi0]; exact hw.2.2)) ?_
    refine h_pu 19 rfl (ls' := #[true, true, true, true, true, true, true, true, true, true, true, true, true, true, true, true, true, true, true, true, false]) (by kernel_rfl) (fun _ _ _ h => h) rfl ⟨hs.cell .t2, hs.cell .t3, (by obtain ⟨S1, hrow1⟩ := hs.pick .t4; exact rowL_at hrow1 hv1 hnm2)⟩ (p_field rfl) ?_
    refine h_one 20 rfl (ls' := #[true, true, true, true, true, true, true, true, true, true, true, true, true, true, true, true, true, true, true, true, true]) (by kernel_rfl) ?_
    refine k_st hs rfl rfl .head rfl rfl ?_
    intro _ hs
    refine WL_th ⟨⟨hs.cell .t2, hs.cell .t3, (by obtain ⟨S1, hrow1⟩ := hs.pick .t4; exact rowL_at hrow1 hv1 hnm2)⟩, ?_⟩
    refine h_done (by kernel_rfl) ?_
    show W _ _ _ _ _ _
    refine W_forget (Ext.cd 8 rfl (Ext.cd 9 rfl (Ext.nil _))) ?_
    refine W_sr ?_
    have hs := hs.imp .head (pt_to (g := tc ⟨k, ⟨#[]⟩, nm, ⟨#[]⟩, 0, .slice none 0 0⟩) (by repeat (first | exact below_zero | refine below_succ ?_ rfl)))
    refine k_ldW hs rfl .head rfl ?_
    refine k_stW hs rfl rfl .t1 (tc_one rfl) ?_
    intro _ hs
    refine WL_th ?_
    refine W_ret ?_
    refine th_ret ?_
    refine ret_cell (fn := Tryz.f15) (n := 6) rfl rfl hs .t1 ?_
    have hs := hs.holdT (R := fun w => RepT w (.mk ⟨k, ⟨#[]⟩, nm, ⟨#[]⟩, 0, .slice none 0 0⟩ [])) (fun w => .mk (.empty rfl) (by simp))
    have hs := hs.front .t6
    have hs := hs.front .t1
    have hs := hs.front .t6
    have hs := hs.front .t6
    have hs := St.cut (G1 := [_, _, _, _]) hs
    exact hs.spec ⟨.mk ⟨k, ⟨#[]⟩, nm, ⟨#[]⟩, 0, .slice none 0 0⟩ [], left - 1, a, ns, rfl, .alias hk4, by simp only [TT.size, tsizes]; omega, by omega, by omega, by omega, fun h => absurd (hkey1 h) (by omega), rfl⟩
   ·
    refine W_skip_th ?_
    refine W_join (fun e' w' => ∃ (k2 : Int), (k2 = 1 ∨ ((k2 = 2 ∨ k2 = 3) ∧ level < 5)) ∧ (k = 1 → k2 = 1) ∧ Ext e' (upd (upd (upd (upd (upd (upd emp 9 (.pointer (some ⟨b9, 0, none⟩))) 8 (.pointer (some ⟨b8, 0, none⟩))) 5 (.pointer (some ⟨b5, 0, none⟩))) 3 (.bool flow)) 2 (.int .i64 level)) 0 (.pointer (some ⟨fb, 0, none⟩))) ∧ St wI S w' [pt b9 24 6 (tc ⟨k2, ⟨#[]⟩, ⟨#[]⟩, ⟨#[]⟩, 0, .slice none 0 0⟩), pt b8 24 6 (tc ⟨0, ⟨#[]⟩, ⟨#[]⟩, ⟨#[]⟩, 0, .slice none 0 0⟩), pt b5 24 6 (tc ⟨kind, value, anchor, tag, style, kv⟩), pt fb 56 3 (fC (left - 1) a), rowL a 9 (ns.map Value.string), hold R]) ?_ ?_
    ·
     refine W_sr ?_
     refine s_pu (p_field rfl) rfl ?_
     refine k_ld hs rfl .head rfl rfl ?_
     refine s_pu (p_eqI rfl rfl) rfl ?_
     refine s_pu (p_move rfl) rfl ?_
     refine WL_cutb 8 71 [0, 2, 3, 5, 8, 9] (fun b => b = false → k ≠ 4 ∧ (k = 1 ∨ level < 5)) ?_ ?_
     ·
      refine s_bool 63 rfl (fun hb63 => ?_) (fun hb63 => ?_)
      ·
       refine g_skip rfl rfl rfl rfl rfl ?_
       refine g_skip rfl rfl rfl rfl rfl ?_
       refine g_skip rfl rfl rfl rfl rfl ?_
       refine g_skip rfl rfl rfl rfl rfl ?_
       refine g_skipU rfl rfl rfl rfl ?_
       refine g_skipU rfl rfl rfl rfl ?_
       refine g_skip rfl rfl rfl rfl rfl ?_
       refine s_pu (p_pickT rfl rfl) rfl ?_
       refine WL_th ⟨rfl, _, ?_, Ext.cons rfl (ext_kd rfl rfl (ext_kd rfl rfl (ext_kd rfl rfl (ext_kd rfl rfl (ext_kd rfl rfl (ext_kd rfl rfl ext_kn))))))⟩
       exact fun h => by cases h
      ·
       refine g_take rfl rfl rfl ?_
       refine s_pu (p_field rfl) rfl ?_
       refine g_take rfl rfl rfl ?_
       refine k_ld hs rfl .head rfl rfl ?_
       refine g_take rfl rfl rfl ?_
       refine s_pu (p_neI rfl rfl) rfl ?_
       refine g_take rfl rfl rfl ?_
       refine s_pu (p_move rfl) rfl ?_
       refine s_bool 67 rfl (fun hb67 => ?_) (fun hb67 => ?_)
       ·
        refine g_take rfl rfl rfl ?_
        refine s_pu (p_move rfl) rfl ?_
        refine g_take rfl rfl rfl ?_
        refine s_pu (p_geI rfl rfl) rfl ?_
        refine g_take rfl rfl rfl ?_
        refine s_pu (p_pickT rfl rfl) rfl ?_
        refine s_pu (p_pickF rfl rfl) rfl ?_
        refine WL_th ⟨rfl, _, ?_, Ext.cons rfl (ext_kd rfl rfl (ext_kd rfl rfl (ext_kd rfl rfl (ext_kd rfl rfl (ext_kd rfl rfl (ext_kd rfl rfl ext_kn))))))⟩
        exact fun h => ⟨by simpa using hb63, .inr (by have := of_decide_eq_false h; omega)⟩
       ·
        refine g_skip rfl rfl rfl rfl rfl ?_
        refine g_skip rfl rfl rfl rfl rfl ?_
        refine g_take rfl rfl rfl ?_
        refine s_pu (p_pickF rfl rfl) rfl ?_
        refine s_pu (p_pickF rfl rfl) rfl ?_
        refine WL_th ⟨rfl, _, ?_, Ext.cons rfl (ext_kd rfl rfl (ext_kd rfl rfl (ext_kd rfl rfl (ext_kd rfl rfl (ext_kd rfl rfl (ext_kd rfl rfl ext_kn))))))⟩
        exact fun _ => ⟨by simpa using hb63, .inl (by simpa using hb67)⟩
     ·
      intro b71 hb71
      refine WL_forget (Ext.cd 0 rfl (Ext.cd 2 rfl (Ext.cd 3 rfl (Ext.cd 5 rfl (Ext.cd 8 rfl (Ext.cd 9 rfl (Ext.cd 71 rfl (Ext.nil _)))))))) ?_
      show WL _ _ _ [] _ _ _
      refine WL_th ?_
      refine W_if rfl (fun h71 => ?_) (fun h71 => ?_)
      ·
       refine W_reg ?_
       refine s_pu (p_field rfl) rfl ?_
       refine k_st hs rfl rfl .head rfl rfl ?_
       intro _ hs
       refine WL_th ?_
       have hs := hs.imp .head (pt_to (g := tc ⟨1, ⟨#[]⟩, ⟨#[]⟩, ⟨#[]⟩, 0, .slice none 0 0⟩) (by repeat (first | exact below_zero | refine below_succ ?_ rfl)))
       have hs := hs.front .t5
       have hs := hs.front .t5
       have hs := hs.front .t5
       have hs := hs.front .t5
       have hs := hs.front .t5
       have hs := hs.front .t5
       have hs := St.cut (G1 := [_, _, _, _, _, _]) hs
       exact ⟨1, .inl rfl, fun _ => rfl, (Ext.cons rfl (Ext.cons rfl (Ext.cons rfl (Ext.cons rfl (Ext.cons rfl (Ext.cons rfl (Ext.nil _))))))), hs⟩
      ·
       refine W_skip_th ?_
       have hs := hs.front .t5
       have hs := hs.front .t5
       have hs := hs.front .t5
       have hs := hs.front .t5
       have hs := hs.front .t5
       have hs := hs.front .t5
       have hs := St.cut (G1 := [_, _, _, _, _, _]) hs
       have hh := hb71 h71
       exact ⟨k, by omega, fun h => h, (Ext.cons rfl (Ext.cons rfl (Ext.cons rfl (Ext.cons rfl (Ext.cons rfl (Ext.cons rfl (Ext.nil _))))))), hs⟩
    ·
     rintro e1 w1 ⟨k2, hk2, hk2k, hx, hs⟩
     refine W_forget hx ?_
     clear hx
     refine W_seq ?_
     refine W_sr ?_
     refine s_pu (p_move rfl) rfl ?_
     refine k_quiet (c_has fb _ _ 8 (by decide) _ (hs.cell .t3)) hs (.cons rfl (.cons rfl .nil)) rfl ?_
     rintro _ _ rfl hs _
     refine WL_th ?_
     refine W_true rfl ?_
     refine W_reg ?_
     refine s_pu (p_field rfl) rfl ?_
     refine k_ld hs rfl .t2 rfl rfl ?_
     refine k_quiet (c_wrName _ han _) hs (.cons rfl .nil) rfl ?_
     rintro _ _ ⟨u77, rfl, hu77⟩ hs _
     refine s_pu (p_field rfl) rfl ?_
     refine k_st hs rfl rfl .head rfl rfl ?_
     intro _ hs
     have hs := hs.imp .head (pt_to (g := tc ⟨k2, ⟨#[]⟩, u77, ⟨#[]⟩, 0, .slice none 0 0⟩) (by repeat (first | exact below_zero | refine below_succ ?_ rfl)))
     refine WL_th ?_
     refine W_sr ?_
     refine s_pu (p_move rfl) rfl ?_
     refine s_pu (p_field rfl) rfl ?_
     refine k_ld hs rfl .t2 rfl rfl ?_
     refine s_pu (p_field rfl) rfl ?_
     refine k_ld hs rfl .head rfl rfl ?_
     refine k_quiet (c_tag fb _ _ _ _ htg _ (hs.cell .t3)) hs (.cons rfl (.cons rfl (.cons rfl .nil))) rfl ?_
     rintro _ _ ⟨u84, rfl, hu84⟩ hs _
     refine s_pu (p_field rfl) rfl ?_
     refine k_st hs rfl rfl .head rfl rfl ?_
     intro _ hs
     have hs := hs.imp .head (pt_to (g := tc ⟨k2, ⟨#[]⟩, u77, u84, 0, .slice none 0 0⟩) (by repeat (first | exact below_zero | refine below_succ ?_ rfl)))
     refine WL_th ?_
     refine W_forget (Ext.cd 0 rfl (Ext.cd 2 rfl (Ext.cd 3 rfl (Ext.cd 5 rfl (Ext.cd 8 rfl (Ext.cd 9 rfl (Ext.nil _))))))) ?_
     refine W_join (fun e' w' => ∃ (t2 : TRec) (k2s : List TT) (l2 : Int) (a2 : Value) (ns2 : List ByteArray), FitT (.mk t2 k2s) ∧ (TT.mk t2 k2s).size ≤ szS d ∧ left - szS d ≤ l2 ∧ l2 ≤ left ∧ ns2.length + 1 ≤ ns.length + szS d ∧ (md kind 4 = 1 → t2.kind = 1 ∧ k2s = [] ∧ t2.kids = .slice none 0 0 ∧ (anchor = ⟨#[]⟩ → t2.anchor = ⟨#[]⟩) ∧ (tag = ⟨#[]⟩ → t2.tag = ⟨#[]⟩)) ∧ Ext e' (upd (upd (upd emp 9 (.pointer (some ⟨b9, 0, none⟩))) 8 (.pointer (some ⟨b8, 0, none⟩))) 0 (.pointer (some ⟨fb, 0, none⟩))) ∧ St wI S w' [pt b9 24 6 (tc t2), pt b8 24 6 (tc ⟨0, ⟨#[]⟩, ⟨#[]⟩, ⟨#[]⟩, 0, .slice none 0 0⟩), pt fb 56 3 (fC l2 a2), rowL a2 9 (ns2.map Value.string), hold (fun w => RepT w (.mk t2 k2s)), hold R]) ?_ ?_
     ·
      refine W_sr ?_
      refine s_pu (p_field rfl) rfl ?_
      refine k_ld hs rfl .head rfl rfl ?_
      refine s_pu (p_eqI rfl rfl) rfl ?_
      refine WL_th ?_
      refine W_if rfl (fun h88 => ?_) (fun h88 => ?_)
      ·
       have hk2e : k2 = 1 := eq_of_beq h88
       refine W_seq ?_
       refine h_start (S := fun w => w.heap[b5]? = some (.cells (mkA 6 (tc ⟨kind, value, anchor, tag, style, kv⟩)) 24 (0, 0))) (ls := #[false, false, false, false, false, false, false, false, false, false, false, false]) (n := 12) (by kernel_rfl) (by kernel_rfl) ?_
       have hs := hs.drew
       refine h_pu 0 rfl (ls' := #[true, false, false, false, false, false, false, false, false, false, false, false]) (by kernel_rfl) (fun _ _ _ h => h) rfl (hs.cell .t2) (p_field rfl) ?_
       refine h_take 1 rfl (ls' := #[true, true, false, false, false, false, false, false, false, false, false, false]) (by kernel_rfl) (fun _ _ _ h => h) rfl (hs.cell .t2) (fun w hw => q_ld rfl hw rfl) ?_
       refine h_pu 2 rfl (ls' := #[true, true, true, false, false, false, false, false, false, false, false, false]) (by kernel_rfl) (fun _ _ _ h => h) rfl (hs.cell .t2) (p_field rfl) ?_
       refine h_take 3 rfl (ls' := #[true, true, true, true, false, false, false, false, false, false, false, false]) (by kernel_rfl) (fun _ _ _ h => h) rfl (hs.cell .t2) (fun w hw => q_ld rfl hw rfl) ?_
       refine h_pu 8 rfl (ls' := #[true, true, true, true, false, false, false, false, true, false, false, false]) (by kernel_rfl) (fun _ _ _ h => h) rfl (hs.cell .t2) (p_field rfl) ?_
       refine h_one 4 rfl (ls' := #[true, true, true, true, true, false, false, false, true, false, false, false]) (by kernel_rfl) ?_
       refine k_quiet (c_modulo _ 5 (by decide) (by decide) _) hs (.cons rfl (.cons rfl .nil)) rfl ?_
       rintro _ _ rfl hs _
       refine WL_th ⟨(hs.cell .t2), ?_⟩
       refine h_pu 5 rfl (ls' := #[true, true, true, true, true, true, false, false, true, false, false, false]) (by kernel_rfl) (fun _ _ _ h => h) rfl (hs.cell .t2) (p_subI rfl rfl ?_) ?_
       ·
        (show _ ≤ md style 5 - 1 ∧ md style 5 - 1 ≤ _; omega)
       refine h_one 6 rfl (ls' := #[true, true, true, true, true, true, true, false, true, false, false, false]) (by kernel_rfl) ?_
       refine k_quiet (c_modulo _ 5 (by decide) (by decide) _) hs (.cons rfl (.cons rfl .nil)) rfl ?_
       rintro _ _ rfl hs _
       refine WL_th ⟨(hs.cell .t2), ?_⟩
       refine h_pu 7 rfl (ls' := #[true, true, true, true, true, true, true, true, true, false, false, false]) (by kernel_rfl) (fun _ _ _ h => h) rfl (hs.cell .t2) (p_addI rfl rfl ?_) ?_
       ·
        (show _ ≤ 1 + md (md style 5 - 1) 5 ∧ 1 + md (md style 5 - 1) 5 ≤ _; omega)
       refine h_one 9 rfl (ls' := #[true, true, true, true, true, true, true, true, true, true, false, false]) (by kernel_rfl) ?_
       refine k_st hs rfl rfl .head rfl rfl ?_
       intro _ hs
       refine WL_th ⟨(hs.cell .t2), ?_⟩
       refine h_pu 10 rfl (ls' := #[true, true, true, true, true, true, true, true, true, true, true, false]) (by kernel_rfl) (fun _ _ _ h => h) rfl (hs.cell .t2) (p_field rfl) ?_
       refine h_one 11 rfl (ls' := #[true, true, true, true, true, true, true, true, true, true, true, true]) (by kernel_rfl) ?_
       refine k_st hs rfl rfl .head rfl rfl ?_
       intro _ hs
       refine WL_th ⟨(hs.cell .t2), ?_⟩
       refine h_done (by kernel_rfl) ?_
       show W _ _ _ _ _ _
       refine W_forget (Ext.cd 0 rfl (Ext.cd 3 rfl (Ext.cd 8 rfl (Ext.cd 9 rfl (Ext.nil _))))) ?_
       refine W_reg ?_
       refine s_pu (p_move rfl) rfl ?_
       have hs := hs.imp .head (pt_to (g := tc ⟨k2, value, u77, u84, 1 + md (md style 5 - 1) 5, .slice none 0 0⟩) (by repeat (first | exact below_zero | refine below_succ ?_ rfl)))
       refine k_ldW hs rfl .head rfl ?_
       refine s_pu (p_move rfl) rfl ?_
       refine k_quiet (c_fscalar hKn hMW fb _ _ _ _ rfl _ (hs.cell .t3)) hs (.cons rfl (.cons rfl (.cons rfl .nil))) rfl ?_
       rintro _ _ ⟨t2, rfl, hst, hvs⟩ hs _
       refine k_stW hs rfl rfl .head (tc_one (by rw [hst.2.1]; rfl)) ?_
       intro _ hs
       refine WL_th ?_
       have hs := hs.holdT (R := fun w => RepT w (.mk t2 [])) (fun w => .mk (.empty hst.2.1) (by simp))
       have hs := hs.front .t6
       have hs := hs.front .t1
       have hs := hs.front .t6
       have hs := hs.front .t6
       have hs := hs.front .t5
       have hs := hs.front .t5
       have hs := St.cut (G1 := [_, _, _, _, _, _]) hs
       exact ⟨t2, [], left - 1, a, ns, .scalar (hst.1.trans hk2e) (by omega), by simp only [TT.size, tsizes]; omega, by omega, by omega, by omega, fun h => ⟨hst.1.trans hk2e, rfl, hst.2.1, fun e => hst.2.2.1.elim (fun e2 => e2.trans (hu77 (by rw [e]; rfl))) id, fun e => hst.2.2.2.elim (fun e2 => e2.trans (hu84 (by rw [e]))) id⟩, (Ext.cons rfl (Ext.cons rfl (Ext.cons rfl (Ext.nil _)))), hs⟩
      ·
       have hne1 : k2 ≠ 1 := by simpa using h88
       obtain ⟨hk23, hl5⟩ := hk2.resolve_left hne1
       obtain ⟨d', rfl⟩ : ∃ d', d = d' + 1 := ⟨d - 1, by omega⟩
       refine W_reg ?_
       refine s_pu (p_move rfl) rfl ?_
       refine k_ldW hs rfl .head rfl ?_
       refine k_ldW hs rfl .t2 rfl ?_
       refine s_pu (p_move rfl) rfl ?_
       refine s_pu (p_move rfl) rfl ?_
       have hs := hs.front .t5
       have hs := hs.front .t5
       have hs := hs.front .t5
       refine k_spec [pt fb 56 3 (fC (left - 1) a), rowL a 9 (ns.map Value.string), hold R] (c_fcoll d' (hT d' rfl) ⟨k2, ⟨#[]⟩, u77, u84, 0, .slice none 0 0⟩ hk23 rfl (.mk ⟨kind, value, anchor, tag, style, kv⟩ kids) R hR hS fb (left - 1) a ns level flow (by omega) (by omega) (by simp only [szS] at h1; omega) (by omega) (by simp only [szS] at h3; omega)) hs (.cons rfl (.cons rfl (.cons rfl (.cons rfl (.cons rfl .nil))))) rfl ?_
       rintro _ _ _ ⟨⟨t2, k2s⟩, left2, a2, ns2, rfl, hfit, hkd, han2, hsz, hl2, hl3, hn2, rfl⟩ hs
       refine k_stW hs rfl rfl .t4 (tc_one (hs.now (R := fun w => RepT w (.mk t2 k2s)) .t2).kids.one) ?_
       intro _ hs
       refine WL_th ?_
       have hs := hs.front .t3
       have hs := hs.front .t3
       have hs := hs.front .t3
       have hs := hs.front .t3
       have hs := hs.front .t5
       have hs := hs.front .t5
       have hs := St.cut (G1 := [_, _, _, _, _, _]) hs
       exact ⟨t2, k2s, _, _, _, hfit, by simp only [szS]; omega, by simp only [szS]; omega, by omega, by simp only [szS]; omega, fun h => absurd (hk2k (hkey1 h)) hne1, (Ext.cons rfl (Ext.cons rfl (Ext.cons rfl (Ext.nil _)))), hs⟩
     ·
      rintro e2 w2 ⟨t2, k2s, l2, a2, ns2, hfit, hsz, hl2, hl3, hn2, hkey, hx, hs⟩
      refine W_forget hx ?_
      clear hx
      have hone2 : t2.kids.oneCell' = true := (hs.now (R := fun w => RepT w (.mk t2 k2s)) .t4).kids.one
      refine W_join (fun e' w' => ∃ (a3 : Value) (ns3 : List ByteArray), ns3.length ≤ ns.length + szS d ∧ Ext e' (upd (upd emp 9 (.pointer (some ⟨b9, 0, none⟩))) 8 (.pointer (some ⟨b8, 0, none⟩))) ∧ St wI S w' [pt b9 24 6 (tc t2), pt b8 24 6 (tc ⟨0, ⟨#[]⟩, ⟨#[]⟩, ⟨#[]⟩, 0, .slice none 0 0⟩), pt fb 56 3 (fC l2 a3), rowL a3 9 (ns3.map Value.string), hold (fun w => RepT w (.mk t2 k2s)), hold R]) ?_ ?_
      ·
       refine W_sr ?_
       refine s_pu (p_field rfl) rfl ?_
       refine k_ld hs rfl .head rfl rfl ?_
       refine s_pu (p_neS rfl rfl) rfl ?_
       refine WL_th ?_
       refine W_if rfl (fun h111 => ?_) (fun h111 => ?_)
       ·
        refine h_start (S := fun w => w.heap[b9]? = some (.cells (mkA 6 (tc t2)) 24 (0, 0))) (ls := #[false, false, false, false, false, false, false, false, false, false, false, false]) (n := 12) (by kernel_rfl) (by kernel_rfl) ?_
        have hs := hs.drew
        refine h_pu 0 rfl (ls' := #[true, false, false, false, false, false, false, false, false, false, false, false]) (by kernel_rfl) (fun _ _ _ h => h) rfl (hs.cell .head) (p_move rfl) ?_
        refine h_pu 1 rfl (ls' := #[true, true, false, false, false, false, false, false, false, false, false, false]) (by kernel_rfl) (fun _ _ _ h => h) rfl (hs.cell .head) (p_move rfl) ?_
        refine h_pu 2 rfl (ls' := #[true, true, true, false, false, false, false, false, false, false, false, false]) (by kernel_rfl) (fun _ _ _ h => h) rfl (hs.cell .head) (p_nilCheck rfl) ?_
        refine h_pu 3 rfl (ls' := #[true, true, true, true, false, false, false, false, false, false, false, false]) (by kernel_rfl) (fun _ _ _ h => h) rfl (hs.cell .head) (p_field rfl) ?_
        refine h_pu 5 rfl (ls' := #[true, true, true, true, false, true, false, false, false, false, false, false]) (by kernel_rfl) (fun _ _ _ h => h) rfl (hs.cell .head) (p_field rfl) ?_
        refine h_take 6 rfl (ls' := #[true, true, true, true, false, true, true, false, false, false, false, false]) (by kernel_rfl) (fun _ _ _ h => h) rfl (hs.cell .head) (fun w hw => q_ld rfl hw rfl) ?_
        refine h_two 4 7 rfl rfl (ls' := #[true, true, true, true, true, true, true, false, false, false, false, false]) (ls'' := #[true, true, true, true, false, true, true, true, false, false, false, false]) (by kernel_rfl) ?_ ?_
        ·
         refine k_ld hs rfl .t2 rfl rfl ?_
         refine WL_th ⟨(hs.cell .head), ?_⟩
         refine h_one 7 rfl (ls' := #[true, true, true, true, true, true, true, true, false, false, false, false]) (by kernel_rfl) ?_
         refine k_bs hs (.one rfl rfl rfl .nil) rfl rfl rfl ?_
         intro b119 _ hs
         refine WL_th ⟨(hs.cell .t1), ?_⟩
         refine h_one 8 rfl (ls' := #[true, true, true, true, true, true, true, true, true, false, false, false]) (by kernel_rfl) ?_
         have hs := hs.front .t4
         have hs := hs.imp .head rowL_row
         refine k_app hs rfl rfl .head rfl (by intro i hi; have h0 : i = 0 := (by omega); subst h0; rfl) (by simp; omega) (by simp; omega) rfl ?_
         intro v120 _ hs
         have hs := hs.imp .head rowL_snoc
         have hs := hs.imp .head rowL_str
         refine WL_th ⟨(hs.cell .t2), ?_⟩
         refine h_pu 9 rfl (ls' := #[true, true, true, true, true, true, true, true, true, true, false, false]) (by kernel_rfl) (fun _ _ _ h => h) rfl (hs.cell .t2) (p_nilCheck rfl) ?_
         refine h_pu 10 rfl (ls' := #[true, true, true, true, true, true, true, true, true, true, true, false]) (by kernel_rfl) (fun _ _ _ h => h) rfl (hs.cell .t2) (p_field rfl) ?_
         refine h_one 11 rfl (ls' := #[true, true, true, true, true, true, true, true, true, true, true, true]) (by kernel_rfl) ?_
         refine k_st hs rfl rfl .t4 (row_one (hs.pick .head)) rfl ?_
         intro _ hs
         have hs := hs.imp .t4 (pt_to (g := fC l2 v120) (by repeat (first | exact below_zero | refine below_succ ?_ rfl)))
         refine WL_th ⟨(hs.cell .t2), ?_⟩
         refine h_done (by kernel_rfl) ?_
         show ∃ _, _
         have hs := hs.front .t6
         have hs := hs.front .t6
         have hs := hs.front .t2
         have hs := hs.front .t6
         have hs := hs.front .t6
         have hs := hs.front .t6
         have hs := St.cut (G1 := [_, _, _, _, _, _]) hs
         exact ⟨v120, ns2 ++ [_], by simp; omega, (Ext.cons rfl (Ext.cons rfl (Ext.nil _))), hs⟩
        ·
         refine k_bs hs (.one rfl rfl rfl .nil) rfl rfl rfl ?_
         intro b119 _ hs
         refine WL_th ⟨(hs.cell .t1), ?_⟩
         refine h_one 4 rfl (ls' := #[true, true, true, true, true, true, true, true, false, false, false, false]) (by kernel_rfl) ?_
         refine k_ld hs rfl .t3 rfl rfl ?_
         refine WL_th ⟨(hs.cell .t1), ?_⟩
         refine h_one 8 rfl (ls' := #[true, true, true, true, true, true, true, true, true, false, false, false]) (by kernel_rfl) ?_
         have hs := hs.front .t4
         have hs := hs.imp .head rowL_row
         refine k_app hs rfl rfl .head rfl (by intro i hi; have h0 : i = 0 := (by omega); subst h0; rfl) (by simp; omega) (by simp; omega) rfl ?_
         intro v120 _ hs
         have hs := hs.imp .head rowL_snoc
         have hs := hs.imp .head rowL_str
         refine WL_th ⟨(hs.cell .t2), ?_⟩
         refine h_pu 9 rfl (ls' := #[true, true, true, true, true, true, true, true, true, true, false, false]) (by kernel_rfl) (fun _ _ _ h => h) rfl (hs.cell .t2) (p_nilCheck rfl) ?_
         refine h_pu 10 rfl (ls' := #[true, true, true, true, true, true, true, true, true, true, true, false]) (by kernel_rfl) (fun _ _ _ h => h) rfl (hs.cell .t2) (p_field rfl) ?_
         refine h_one 11 rfl (ls' := #[true, true, true, true, true, true, true, true, true, true, true, true]) (by kernel_rfl) ?_
         refine k_st hs rfl rfl .t4 (row_one (hs.pick .head)) rfl ?_
         intro _ hs
         have hs := hs.imp .t4 (pt_to (g := fC l2 v120) (by repeat (first | exact below_zero | refine below_succ ?_ rfl)))
         refine WL_th ⟨(hs.cell .t2), ?_⟩
         refine h_done (by kernel_rfl) ?_
         show ∃ _, _
         have hs := hs.front .t6
         have hs := hs.front .t6
         have hs := hs.front .t2
         have hs := hs.front .t6
         have hs := hs.front .t6
         have hs := hs.front .t6
         have hs := St.cut (G1 := [_, _, _, _, _, _]) hs
         exact ⟨v120, ns2 ++ [_], by simp; omega, (Ext.cons rfl (Ext.cons rfl (Ext.nil _))), hs⟩
       ·
        refine W_skip_th ?_
        have hs := hs.front .t5
        have hs := hs.front .t5
        have hs := hs.front .t5
        have hs := hs.front .t5
        have hs := hs.front .t5
        have hs := hs.front .t5
        have hs := St.cut (G1 := [_, _, _, _, _, _]) hs
        exact ⟨a2, ns2, by omega, (Ext.cons rfl (Ext.cons rfl (Ext.nil _))), hs⟩
      ·
       rintro e3 w3 ⟨a3, ns3, hn3, hx, hs⟩
       refine W_forget hx ?_
       clear hx
       refine W_sr ?_
       refine k_ldW hs rfl .head rfl ?_
       refine k_stW hs rfl rfl .t1 (tc_one hone2) ?_
       intro _ hs
       refine WL_th ?_
       refine W_ret ?_
       refine ret_cell (fn := Tryz.f15) (n := 6) rfl rfl hs .t1 ?_
       have hs := hs.front .t5
       have hs := hs.front .t5
       have hs := hs.front .t5
       have hs := hs.front .t5
       have hs := St.cut (G1 := [_, _, _, _]) hs
       exact hs.spec ⟨.mk t2 k2s, l2, a3, ns3, rfl, hfit, hsz, hl2, hl3, hn3, hkey, rfl⟩
theorem c_tree {T : ByteArray → Prop} (hKn : KnownOK T) (hMW : MayWordOK) : ∀ d, TreeOK d
 | 0 => c_tree1 hKn hMW 0 (fun d' h => by omega)
 | d + 1 => c_tree1 hKn hMW (d + 1) (fun d' h => by obtain rfl : d' = d := (by omega); exact c_tree hKn hMW d')
end Go.Proofs.YtmalghopogngoaaGreatDoor
set_option linter.unusedVariables false
set_option linter.unusedSimpArgs false
set_option maxRecDepth 4000
namespace Go.Proofs.YtmalghopogngoaaGreatDoor
open Go Go.RowKit MW
theorem hold_to {R R' : World → Prop} (h : ∀ w, R w → R' w) (w : World) (S : Foot) (hr : (hold R).on w S) : (hold R').on w S := fun w' hk => h w' (hr w' hk)
theorem addr0 {n : Nat} (h : n = 0) (i : Nat) : 0 + ((n : Int).toNat) * 13 + 0 + i = i := by
 subst h
 show 0 + 0 * 13 + 0 + i = i
 omega
theorem one_to {n : Nat} {f g : Nat → Value} (h : ∀ i, i < n → f i = g i) (hg : ∀ i, i < n → (g i).oneCell' = true) : ∀ i, i < n → (f i).oneCell' = true := fun i hi => by
 rw [h i hi]
 exact hg i hi
/-- A document: its root, and two marks. -/
def dc (t : TRec) (a b : Bool) : Nat → Value := cl [.int .i64 t.kind, .string t.value, .string t.anchor, .string t.tag, .int .i64 t.style, t.kids, .bool a, .bool b, .bool false, .int .i64 0, .int .i64 0, .slice none 0 0, .slice none 0 0]
def dcR (d : TT × Bool × Bool) : Nat → Value := dc d.1.t d.2.1 d.2.2
theorem dc_one {t : TRec} {b c : Bool} (h : t.kids.oneCell' = true) : ∀ i, i < 13 → (dc t b c i).oneCell' = true := by
 obtain ⟨kind, value, anchor, tag, style, kv⟩ := t
 have h' : kv.oneCell' = true := h
 exact (by repeat (first | exact below_zero | refine below_succ ?_ (by first | rfl | exact h')))
theorem dcR_one {d : TT × Bool × Bool} (h : d.1.t.kids.oneCell' = true) : ∀ i, i < 13 → (dcR d i).oneCell' = true := dc_one h
theorem lay13 {z g : Nat → Value} (i : Nat) (hi : i < 13) : lay z (0 * 13) 13 g i = g i := by
 rw [Nat.zero_mul]
 exact lay_all i hi
theorem one_lay13 {z g : Nat → Value} (h : ∀ i, i < 13 → (g i).oneCell' = true) : ∀ i, i < 1 * 13 → (lay z (0 * 13) 13 g i).oneCell' = true := fun i hi => by
 rw [lay13 i (by omega)]
 exact h i (by omega)
theorem c_Fit (hT : TreeOK 4) (tt : TT) (R : World → Prop) (hR : ∀ w, R w → RepT w tt) (hS : Small tt) (db : Nat) (f : Nat → Value) (expl ended : Bool) (hf : ∀ i, i < 6 → f i = tc tt.t i) (hf6 : f 6 = .bool expl) (hf7 : f 7 = .bool ended) :
  MW.Spec Tryz.prog 8 [.slice (some ⟨db, 0, none⟩) 1 1, .int .i64 63].toArray [pt db 43 13 f, hold R] fun v G => ∃ (t : TT) (e en : Bool), FitT t ∧ t.size ≤ 1555 ∧ G = [row v 43 13 1 (recs 13 dcR [(t, e, en)]), hold (fun w => RepT w t), hold R] := by
 intro wI S hsat
 have hs := St.start hsat
 refine calls_W (args := [_, _]) Tryz.func8 rfl Tryz.ntmps8 rfl ?_
 refine W_sr ?_
 refine s_pu (p_assign rfl) rfl ?_
 refine WL_th ?_
 refine W_sr ?_
 refine s_pu (p_assign rfl) rfl ?_
 refine WL_th ?_
 refine W_seq ?_
 refine W_sr ?_
 refine s_pu (p_assign rfl) rfl ?_
 refine WL_th ?_
 refine W_block ?_
 have hs := (hs.rowNil 43 13 (recs 13 dcR [])).holdT (R := fun w => ∀ r ∈ ([] : List (TT × Bool × Bool)), RepT w r.1) (fun w r h => by simp at h)
 have hs := hs.front .t3
 have hs := hs.front .t3
 have hs := hs.front .t2
 have hs := hs.front .t3
 have hs := St.cut (G1 := [_, _, _, _]) hs
 refine W_loop (α := List (TT × Bool × Bool) × Value) (fun x => (upd (upd (upd (upd emp 6 (.int .i64 x.1.length)) 5 x.2) 1 (.int .i64 63)) 0 (.slice (some ⟨db, 0, none⟩) 1 1))) (fun x w => x.1.length ≤ 1 ∧ (∀ r ∈ x.1, FitT r.1 ∧ r.1.size ≤ 1555) ∧ St wI S w [row x.2 43 13 x.1.length (recs 13 dcR x.1), hold (fun w => ∀ r ∈ x.1, RepT w r.1), pt db 43 13 f, hold R]) (fun x => 1 - x.1.length) ([], .slice none 0 0) (Ext.cons rfl (Ext.cons rfl (Ext.cons rfl (Ext.cons rfl (Ext.nil _))))) ⟨by simp, by simp, hs⟩ (fun x w hx => ?_)
 obtain ⟨hx1, hxf, hs⟩ := hx
 refine W_seq ?_
 refine W_sr ?_
 refine s_pu (p_move rfl) rfl ?_
 refine s_pu (p_move rfl) rfl ?_
 refine s_pu (p_lenL rfl) rfl ?_
 refine s_pu (p_ltI rfl rfl) rfl ?_
 refine s_pu (p_move rfl) rfl ?_
 refine WL_cutb 3 16 [0, 1, 5, 6] (fun b => (b = true → x.1 = []) ∧ (b = false → x.1.length = 1)) ?_ ?_
 ·
  refine s_bool 13 rfl (fun hb13 => ?_) (fun hb13 => ?_)
  ·
   refine g_take rfl rfl rfl ?_
   refine s_pu (p_move rfl) rfl ?_
   refine g_take rfl rfl rfl ?_
   refine s_pu (p_ltI rfl rfl) rfl ?_
   refine s_pu (p_pickT rfl rfl) rfl ?_
   refine WL_th ⟨rfl, _, ?_, Ext.cons rfl (ext_kd rfl rfl (ext_kd rfl rfl (ext_kd rfl rfl (ext_kd rfl rfl ext_kn))))⟩
   have h0 : x.1.length = 0 := (by have h1 := of_decide_eq_true hb13; omega)
   exact ⟨fun _ => List.eq_nil_of_length_eq_zero h0, fun h => by have h1 := of_decide_eq_false h; omega⟩
  ·
   refine g_skip rfl rfl rfl rfl rfl ?_
   refine g_skip rfl rfl rfl rfl rfl ?_
   refine s_pu (p_pickF rfl rfl) rfl ?_
   refine WL_th ⟨rfl, _, ?_, Ext.cons rfl (ext_kd rfl rfl (ext_kd rfl rfl (ext_kd rfl rfl (ext_kd rfl rfl ext_kn))))⟩
   exact ⟨fun h => (by cases h), fun _ => (by have h1 := of_decide_eq_false hb13; omega)⟩
 ·
  intro b16 hb16
  refine WL_forget (Ext.cd 0 rfl (Ext.cd 1 rfl (Ext.cd 5 rfl (Ext.cd 6 rfl (Ext.cd 16 rfl (Ext.nil _)))))) ?_
  show WL _ _ _ [] _ _ _
  refine WL_th ?_
  refine W_if rfl (fun h16 => ?_) (fun h16 => ?_)
  ·
   have hx0 := hb16.1 h16
   have hx00 : x.1.length = 0 := by rw [hx0]; rfl
   refine W_skip_th ?_
   refine W_seq ?_
   refine W_block ?_
   refine W_sr ?_
   refine s_pu (p_move rfl) rfl ?_
   refine s_pu (p_st (.one rfl rfl rfl (.one rfl rfl rfl .nil))) rfl ?_
   refine k_box hs rfl rfl ?_
   intro b21 _ hs
   refine s_pu (p_assign rfl) rfl ?_
   refine WL_th ?_
   refine W_seq ?_
   refine h_start (S := fun w => w.heap[db]? = some (.cells (mkA 13 (f)) 43 (0, 0)) ∧ R w) (ls := #[false, false, false, false, false, false, false, false, false, false, false, false, false, false, false]) (n := 15) (by kernel_rfl) (by kernel_rfl) ?_
   have hs := hs.drew
   refine h_pu 0 rfl (ls' := #[true, false, false, false, false, false, false, false, false, false, false, false, false, false, false]) (by kernel_rfl) (fun _ _ _ h => h) rfl ⟨hs.cell .t3, hs.now .t4⟩ (p_move rfl) ?_
   refine h_pu 1 rfl (ls' := #[true, true, false, false, false, false, false, false, false, false, false, false, false, false, false]) (by kernel_rfl) (fun _ _ _ h => h) rfl ⟨hs.cell .t3, hs.now .t4⟩ (p_move rfl) ?_
   refine h_pu 2 rfl (ls' := #[true, true, true, false, false, false, false, false, false, false, false, false, false, false, false]) (by kernel_rfl) (fun _ _ _ h => h) rfl ⟨hs.cell .t3, hs.now .t4⟩ (p_elem rfl rfl (by omega) (by omega)) ?_
   refine h_pu 3 rfl (ls' := #[true, true, true, true, false, false, false, false, false, false, false, false, false, false, false]) (by kernel_rfl) (fun _ _ _ h => h) rfl ⟨hs.cell .t3, hs.now .t4⟩ (p_field rfl) ?_
   refine h_take 4 rfl (ls' := #[true, true, true, true, true, false, false, false, false, false, false, false, false, false, false]) (by kernel_rfl) (fun _ _ _ h => h) rfl ⟨hs.cell .t3, hs.now .t4⟩ (fun w hw => m_load1 (v := .bool ended) rfl (by rw [show 0 + (((x.1.length : Nat) : Int).toNat) * 13 + 7 = 7 by rw [hx00]; rfl]; have := pt_cell hw.1 7 (by decide); rw [hf7] at this; exact this)) ?_
   refine h_pu 5 rfl (ls' := #[true, true, true, true, true, true, false, false, false, false, false, false, false, false, false]) (by kernel_rfl) (fun _ _ _ h => h) rfl ⟨hs.cell .t3, hs.now .t4⟩ (p_move rfl) ?_
   refine h_pu 6 rfl (ls' := #[true, true, true, true, true, true, true, false, false, false, false, false, false, false, false]) (by kernel_rfl) (fun _ _ _ h => h) rfl ⟨hs.cell .t3, hs.now .t4⟩ (p_move rfl) ?_
   refine h_pu 7 rfl (ls' := #[true, true, true, true, true, true, true, true, false, false, false, false, false, false, false]) (by kernel_rfl) (fun _ _ _ h => h) rfl ⟨hs.cell .t3, hs.now .t4⟩ (p_move rfl) ?_
   refine h_pu 8 rfl (ls' := #[true, true, true, true, true, true, true, true, true, false, false, false, false, false, false]) (by kernel_rfl) (fun _ _ _ h => h) rfl ⟨hs.cell .t3, hs.now .t4⟩ (p_elem rfl rfl (by omega) (by omega)) ?_
   refine h_pu 9 rfl (ls' := #[true, true, true, true, true, true, true, true, true, true, false, false, false, false, false]) (by kernel_rfl) (fun _ _ _ h => h) rfl ⟨hs.cell .t3, hs.now .t4⟩ (p_field rfl) ?_
   refine h_take 10 rfl (ls' := #[true, true, true, true, true, true, true, true, true, true, true, false, false, false, false]) (by kernel_rfl) (fun _ _ _ h => h) rfl ⟨hs.cell .t3, hs.now .t4⟩ (fun w hw => m_loadA (n := 6) (b := db) (o := 0 + (((x.1.length : Nat) : Int).toNat) * 13 + 0) (g := tc tt.t) rfl (fun (i : Nat) (hi : i < 6) => by rw [addr0 hx00 i]; have := pt_cell hw.1 i (by omega); rw [hf i hi] at this; exact this)) ?_
   refine h_two 11 13 rfl rfl (ls' := #[true, true, true, true, true, true, true, true, true, true, true, true, false, false, false]) (ls'' := #[true, true, true, true, true, true, true, true, true, true, true, false, false, true, false]) (by kernel_rfl) ?_ ?_
   ·
    have hs := hs.imp .head (pt_to (g := fC 30 (.slice none 0 0)) (by repeat (first | exact below_zero | refine below_succ ?_ rfl)))
    have hs := (hs.rowNil 9 1 (fun i => (([] : List ByteArray).map Value.string)[i]?.getD undef))
    have hs := hs.front .t5
    have hs := hs.front .t1
    have hs := hs.front .t2
    refine k_spec [pt b21 56 3 (fC 30 (.slice none 0 0)), rowL (.slice none 0 0) 9 (([] : List ByteArray).map Value.string), hold R] (hT tt R hR hS b21 30 (.slice none 0 0) [] 1 false (by decide) (by decide) (by decide) (by decide) (by decide)) hs (.cons rfl (.cons rfl (.cons rfl (.cons rfl .nil)))) rfl ?_
    rintro _ _ _ ⟨⟨t2, k2⟩, left2, a2, ns2, rfl, hfit, hsz, hl2, hl3, hn2, _, rfl⟩ hs
    refine WL_th ⟨⟨hs.cell .t6, hs.now .t3⟩, ?_⟩
    refine h_pu 12 rfl (ls' := #[true, true, true, true, true, true, true, true, true, true, true, true, true, false, false]) (by kernel_rfl) (fun _ _ _ h => h) rfl ⟨hs.cell .t6, hs.now .t3⟩ (p_st (.one rfl rfl rfl (.agg rfl rfl .nil))) ?_
    refine h_one 13 rfl (ls' := #[true, true, true, true, true, true, true, true, true, true, true, true, true, true, false]) (by kernel_rfl) ?_
    refine k_alloc hs rfl ?_
    intro b8 _ hs
    refine WL_th ⟨⟨hs.cell .t7, hs.now .t4⟩, ?_⟩
    refine h_one 14 rfl (ls' := #[true, true, true, true, true, true, true, true, true, true, true, true, true, true, true]) (by kernel_rfl) ?_
    have hone2 := (hs.now (R := fun w => RepT w (.mk t2 k2)) .t3).kids.one
    refine k_stW hs rfl rfl .head (one_to (g := dc t2 false ended) (by repeat (first | exact below_zero | refine below_succ ?_ rfl)) (dc_one hone2)) ?_
    intro _ hs
    have hs := hs.imp .head (pt_to (g := dc t2 false ended) (by repeat (first | exact below_zero | refine below_succ ?_ rfl)))
    refine WL_th ⟨⟨hs.cell .t7, hs.now .t4⟩, ?_⟩
    refine h_done (by kernel_rfl) ?_
    show W _ _ _ _ _ _
    refine W_forget (Ext.cd 0 rfl (Ext.cd 1 rfl (Ext.cd 5 rfl (Ext.cd 6 rfl (Ext.cd 8 rfl (Ext.nil _)))))) ?_
    refine W_join (fun e' w' => ∃ (t3 : TRec), (t3.kind = t2.kind ∧ t3.value = t2.value) ∧ t3.kids = t2.kids ∧ Ext e' (upd (upd (upd (upd (upd emp 0 (.slice (some ⟨db, 0, none⟩) 1 1)) 1 (.int .i64 63)) 5 x.2) 6 (.int .i64 x.1.length)) 8 (.pointer (some ⟨b8, 0, none⟩))) ∧ St wI S w' [pt b8 43 13 (dc t3 false ended), hold (fun w => RepT w (.mk t2 k2)), pt db 43 13 f, hold R, row x.2 43 13 x.1.length (recs 13 dcR x.1)]) ?_ ?_
    ·
     refine W_sr ?_
     refine s_pu (p_field rfl) rfl ?_
     have hs := hs.imp .head (pt_to (g := dc t2 false ended) (by repeat (first | exact below_zero | refine below_succ ?_ rfl)))
     refine k_ldA hs rfl .head rfl rfl ?_
     rw [show mkA 6 (sft (dc t2 false ended) (0 + 0)) = mkA 6 (tc t2) from mkA_congr (by repeat (first | exact below_zero | refine below_succ ?_ rfl))]
     refine k_quiet (c_void _ _) hs (.cons rfl .nil) rfl ?_
     rintro _ _ ⟨vb, rfl, _⟩ hs _
     have hs := hs.front .t5
     have hs := hs.front .t5
     have hs := hs.front .t7
     have hs := hs.front .t6
     have hs := hs.front .t4
     refine WL_th ?_
     refine W_if rfl (fun h37 => ?_) (fun h37 => ?_)
     ·
      refine W_reg ?_
      refine s_pu (p_field rfl) rfl ?_
      refine s_pu (p_field rfl) rfl ?_
      refine k_st hs rfl rfl .head rfl rfl ?_
      intro _ hs
      refine WL_th ?_
      have hs := hs.imp .head (pt_to (g := dc { t2 with style := 2 } false ended) (by repeat (first | exact below_zero | refine below_succ ?_ rfl)))
      have hs := hs.front .t4
      have hs := hs.front .t4
      have hs := hs.front .t4
      have hs := hs.front .t4
      have hs := hs.front .t4
      have hs := St.cut (G1 := [_, _, _, _, _]) hs
      exact ⟨{ t2 with style := 2 }, ⟨rfl, rfl⟩, rfl, (Ext.cons rfl (Ext.cons rfl (Ext.cons rfl (Ext.cons rfl (Ext.cons rfl (Ext.nil _)))))), hs⟩
     ·
      refine W_skip_th ?_
      have hs := hs.front .t4
      have hs := hs.front .t4
      have hs := hs.front .t4
      have hs := hs.front .t4
      have hs := hs.front .t4
      have hs := St.cut (G1 := [_, _, _, _, _]) hs
      exact ⟨t2, ⟨rfl, rfl⟩, rfl, (Ext.cons rfl (Ext.cons rfl (Ext.cons rfl (Ext.cons rfl (Ext.cons rfl (Ext.nil _)))))), hs⟩
    ·
     rintro e2 w2 ⟨t3, hk31, hk32, hx, hs⟩
     refine W_forget hx ?_
     clear hx
     have hone3 : t3.kids.oneCell' = true := by rw [hk32]; exact (hs.now (R := fun w => RepT w (.mk t2 k2)) .t1).kids.one
     refine W_sr ?_
     refine s_pu (p_move rfl) rfl ?_
     refine s_pu (p_move rfl) rfl ?_
     refine s_pu (p_elem rfl rfl ?_ ?_) rfl ?_
     ·
      omega
     ·
      omega
     refine s_pu (p_field rfl) rfl ?_
     refine kc_ldv (v := .bool expl) (a := ⟨db, 6, none⟩) (by have := pt_cell (hs.cell .t2) 6 (by decide); rw [hf6] at this; exact this) (by show some (Value.pointer (some ⟨db, 0 + (((x.1.length : Nat) : Int).toNat) * 13 + 6, none⟩)) = _; rw [hx00]; rfl) rfl rfl ?_
     refine s_pu (p_move rfl) rfl ?_
     refine WL_cutb 3 48 [0, 1, 5, 6, 8] (fun b => True) ?_ ?_
     ·
      refine s_bool 45 rfl (fun hb45 => ?_) (fun hb45 => ?_)
      ·
       refine g_skip rfl rfl rfl rfl rfl ?_
       refine g_skip rfl rfl rfl rfl rfl ?_
       refine s_pu (p_pickT rfl rfl) rfl ?_
       refine WL_th ⟨rfl, _, ?_, Ext.cons rfl (ext_kd rfl rfl (ext_kd rfl rfl (ext_kd rfl rfl (ext_kd rfl rfl (ext_kd rfl rfl ext_kn)))))⟩
       trivial
      ·
       refine g_take rfl rfl rfl ?_
       refine s_pu (p_move rfl) rfl ?_
       refine g_take rfl rfl rfl ?_
       refine s_pu (p_gtI rfl rfl) rfl ?_
       refine s_pu (p_pickF rfl rfl) rfl ?_
       refine WL_th ⟨rfl, _, ?_, Ext.cons rfl (ext_kd rfl rfl (ext_kd rfl rfl (ext_kd rfl rfl (ext_kd rfl rfl (ext_kd rfl rfl ext_kn)))))⟩
       trivial
     ·
      intro b48 hb48
      refine WL_forget (Ext.cd 0 rfl (Ext.cd 1 rfl (Ext.cd 5 rfl (Ext.cd 6 rfl (Ext.cd 8 rfl (Ext.cd 48 rfl (Ext.nil _))))))) ?_
      show WL _ _ _ (_ :: _) _ _ _
      refine s_pu (p_field rfl) rfl ?_
      refine k_st hs rfl rfl .head rfl rfl ?_
      intro _ hs
      generalize b48 = e3 at hs ⊢
      have hs := hs.imp .head (pt_to (g := dc t3 e3 ended) (by repeat (first | exact below_zero | refine below_succ ?_ rfl)))
      refine WL_th ?_
      refine W_reg ?_
      refine s_pu (p_move rfl) rfl ?_
      refine k_ldW hs rfl .head rfl ?_
      refine k_bs hs (.agg rfl .nil) rfl rfl rfl ?_
      intro b52 _ hs
      have hs := hs.front .t5
      refine k_app (n := x.1.length) hs rfl rfl .head rfl (one_lay13 (dcR_one (d := (TT.mk t3 k2, e3, ended)) hone3)) (by rw [hx0]; decide) (by rw [hx0]; decide) rfl ?_
      intro v53 _ hs
      have hs := hs.imp .head (recs_snoc (c := dcR) (a := (TT.mk t3 k2, e3, ended)) (by omega) (fun j hj => lay13 j hj))
      refine s_pu (p_assign rfl) rfl ?_
      refine WL_nil ?_
      show W _ _ _ _ _ _
      refine W_reg ?_
      refine s_pu (p_move rfl) rfl ?_
      refine s_pu (p_addI rfl rfl ?_) rfl ?_
      ·
       (first | assumption | omega)
      refine s_pu (p_assign rfl) rfl ?_
      refine WL_th ?_
      have hs := hs.imp .t3 (hold_to (R' := fun w => ∀ r ∈ x.1 ++ [(TT.mk t3 k2, e3, ended)], RepT w r.1) (fun w h r hr => by rw [hx0] at hr; simp at hr; subst hr; exact h.like hk32))
      have hs := hs.front .t5
      have hs := hs.front .t5
      have hs := hs.front .t5
      have hs := hs.front .t3
      have hs := St.cut (G1 := [_, _, _, _]) hs
      refine ⟨(x.1 ++ [(TT.mk t3 k2, e3, ended)], v53), (Ext.cons rfl (Ext.cons rfl (Ext.cons rfl (Ext.cons (by show some (Value.int .i64 ((x.1.length : Int) + 1)) = _; simp) (Ext.nil _))))), ⟨by simp [hx0], by rw [hx0]; simp; exact ⟨hfit.like hk31.1 hk31.2, by simp only [TT.size] at hsz ⊢; exact hsz⟩, hs⟩, by simp [hx0]⟩
   ·
    refine k_alloc hs rfl ?_
    intro b8 _ hs
    refine WL_th ⟨⟨hs.cell .t4, hs.now .t5⟩, ?_⟩
    refine h_one 11 rfl (ls' := #[true, true, true, true, true, true, true, true, true, true, true, true, false, true, false]) (by kernel_rfl) ?_
    have hs := hs.imp .t1 (pt_to (g := fC 30 (.slice none 0 0)) (by repeat (first | exact below_zero | refine below_succ ?_ rfl)))
    have hs := (hs.rowNil 9 1 (fun i => (([] : List ByteArray).map Value.string)[i]?.getD undef))
    have hs := hs.front .t6
    have hs := hs.front .t1
    have hs := hs.front .t3
    refine k_spec [pt b21 56 3 (fC 30 (.slice none 0 0)), rowL (.slice none 0 0) 9 (([] : List ByteArray).map Value.string), hold R] (hT tt R hR hS b21 30 (.slice none 0 0) [] 1 false (by decide) (by decide) (by decide) (by decide) (by decide)) hs (.cons rfl (.cons rfl (.cons rfl (.cons rfl .nil)))) rfl ?_
    rintro _ _ _ ⟨⟨t2, k2⟩, left2, a2, ns2, rfl, hfit, hsz, hl2, hl3, hn2, _, rfl⟩ hs
    refine WL_th ⟨⟨hs.cell .t7, hs.now .t3⟩, ?_⟩
    refine h_pu 12 rfl (ls' := #[true, true, true, true, true, true, true, true, true, true, true, true, true, true, false]) (by kernel_rfl) (fun _ _ _ h => h) rfl ⟨hs.cell .t7, hs.now .t3⟩ (p_st (.one rfl rfl rfl (.agg rfl rfl .nil))) ?_
    refine h_one 14 rfl (ls' := #[true, true, true, true, true, true, true, true, true, true, true, true, true, true, true]) (by kernel_rfl) ?_
    have hone2 := (hs.now (R := fun w => RepT w (.mk t2 k2)) .t2).kids.one
    refine k_stW hs rfl rfl .t4 (one_to (g := dc t2 false ended) (by repeat (first | exact below_zero | refine below_succ ?_ rfl)) (dc_one hone2)) ?_
    intro _ hs
    have hs := hs.imp .t4 (pt_to (g := dc t2 false ended) (by repeat (first | exact below_zero | refine below_succ ?_ rfl)))
    refine WL_th ⟨⟨hs.cell .t7, hs.now .t3⟩, ?_⟩
    refine h_done (by kernel_rfl) ?_
    show W _ _ _ _ _ _
    refine W_forget (Ext.cd 0 rfl (Ext.cd 1 rfl (Ext.cd 5 rfl (Ext.cd 6 rfl (Ext.cd 8 rfl (Ext.nil _)))))) ?_
    refine W_join (fun e' w' => ∃ (t3 : TRec), (t3.kind = t2.kind ∧ t3.value = t2.value) ∧ t3.kids = t2.kids ∧ Ext e' (upd (upd (upd (upd (upd emp 0 (.slice (some ⟨db, 0, none⟩) 1 1)) 1 (.int .i64 63)) 5 x.2) 6 (.int .i64 x.1.length)) 8 (.pointer (some ⟨b8, 0, none⟩))) ∧ St wI S w' [pt b8 43 13 (dc t3 false ended), hold (fun w => RepT w (.mk t2 k2)), pt db 43 13 f, hold R, row x.2 43 13 x.1.length (recs 13 dcR x.1)]) ?_ ?_
    ·
     refine W_sr ?_
     refine s_pu (p_field rfl) rfl ?_
     have hs := hs.imp .t4 (pt_to (g := dc t2 false ended) (by repeat (first | exact below_zero | refine below_succ ?_ rfl)))
     refine k_ldA hs rfl .t4 rfl rfl ?_
     rw [show mkA 6 (sft (dc t2 false ended) (0 + 0)) = mkA 6 (tc t2) from mkA_congr (by repeat (first | exact below_zero | refine below_succ ?_ rfl))]
     refine k_quiet (c_void _ _) hs (.cons rfl .nil) rfl ?_
     rintro _ _ ⟨vb, rfl, _⟩ hs _
     have hs := hs.front .t5
     have hs := hs.front .t4
     have hs := hs.front .t7
     have hs := hs.front .t5
     have hs := hs.front .t6
     refine WL_th ?_
     refine W_if rfl (fun h37 => ?_) (fun h37 => ?_)
     ·
      refine W_reg ?_
      refine s_pu (p_field rfl) rfl ?_
      refine s_pu (p_field rfl) rfl ?_
      refine k_st hs rfl rfl .head rfl rfl ?_
      intro _ hs
      refine WL_th ?_
      have hs := hs.imp .head (pt_to (g := dc { t2 with style := 2 } false ended) (by repeat (first | exact below_zero | refine below_succ ?_ rfl)))
      have hs := hs.front .t4
      have hs := hs.front .t4
      have hs := hs.front .t4
      have hs := hs.front .t4
      have hs := hs.front .t4
      have hs := St.cut (G1 := [_, _, _, _, _]) hs
      exact ⟨{ t2 with style := 2 }, ⟨rfl, rfl⟩, rfl, (Ext.cons rfl (Ext.cons rfl (Ext.cons rfl (Ext.cons rfl (Ext.cons rfl (Ext.nil _)))))), hs⟩
     ·
      refine W_skip_th ?_
      have hs := hs.front .t4
      have hs := hs.front .t4
      have hs := hs.front .t4
      have hs := hs.front .t4
      have hs := hs.front .t4
      have hs := St.cut (G1 := [_, _, _, _, _]) hs
      exact ⟨t2, ⟨rfl, rfl⟩, rfl, (Ext.cons rfl (Ext.cons rfl (Ext.cons rfl (Ext.cons rfl (Ext.cons rfl (Ext.nil _)))))), hs⟩
    ·
     rintro e2 w2 ⟨t3, hk31, hk32, hx, hs⟩
     refine W_forget hx ?_
     clear hx
     have hone3 : t3.kids.oneCell' = true := by rw [hk32]; exact (hs.now (R := fun w => RepT w (.mk t2 k2)) .t1).kids.one
     refine W_sr ?_
     refine s_pu (p_move rfl) rfl ?_
     refine s_pu (p_move rfl) rfl ?_
     refine s_pu (p_elem rfl rfl ?_ ?_) rfl ?_
     ·
      omega
     ·
      omega
     refine s_pu (p_field rfl) rfl ?_
     refine kc_ldv (v := .bool expl) (a := ⟨db, 6, none⟩) (by have := pt_cell (hs.cell .t2) 6 (by decide); rw [hf6] at this; exact this) (by show some (Value.pointer (some ⟨db, 0 + (((x.1.length : Nat) : Int).toNat) * 13 + 6, none⟩)) = _; rw [hx00]; rfl) rfl rfl ?_
     refine s_pu (p_move rfl) rfl ?_
     refine WL_cutb 3 48 [0, 1, 5, 6, 8] (fun b => True) ?_ ?_
     ·
      refine s_bool 45 rfl (fun hb45 => ?_) (fun hb45 => ?_)
      ·
       refine g_skip rfl rfl rfl rfl rfl ?_
       refine g_skip rfl rfl rfl rfl rfl ?_
       refine s_pu (p_pickT rfl rfl) rfl ?_
       refine WL_th ⟨rfl, _, ?_, Ext.cons rfl (ext_kd rfl rfl (ext_kd rfl rfl (ext_kd rfl rfl (ext_kd rfl rfl (ext_kd rfl rfl ext_kn)))))⟩
       trivial
      ·
       refine g_take rfl rfl rfl ?_
       refine s_pu (p_move rfl) rfl ?_
       refine g_take rfl rfl rfl ?_
       refine s_pu (p_gtI rfl rfl) rfl ?_
       refine s_pu (p_pickF rfl rfl) rfl ?_
       refine WL_th ⟨rfl, _, ?_, Ext.cons rfl (ext_kd rfl rfl (ext_kd rfl rfl (ext_kd rfl rfl (ext_kd rfl rfl (ext_kd rfl rfl ext_kn)))))⟩
       trivial
     ·
      intro b48 hb48
      refine WL_forget (Ext.cd 0 rfl (Ext.cd 1 rfl (Ext.cd 5 rfl (Ext.cd 6 rfl (Ext.cd 8 rfl (Ext.cd 48 rfl (Ext.nil _))))))) ?_
      show WL _ _ _ (_ :: _) _ _ _
      refine s_pu (p_field rfl) rfl ?_
      refine k_st hs rfl rfl .head rfl rfl ?_
      intro _ hs
      generalize b48 = e3 at hs ⊢
      have hs := hs.imp .head (pt_to (g := dc t3 e3 ended) (by repeat (first | exact below_zero | refine below_succ ?_ rfl)))
      refine WL_th ?_
      refine W_reg ?_
      refine s_pu (p_move rfl) rfl ?_
      refine k_ldW hs rfl .head rfl ?_
      refine k_bs hs (.agg rfl .nil) rfl rfl rfl ?_
      intro b52 _ hs
      have hs := hs.front .t5
      refine k_app (n := x.1.length) hs rfl rfl .head rfl (one_lay13 (dcR_one (d := (TT.mk t3 k2, e3, ended)) hone3)) (by rw [hx0]; decide) (by rw [hx0]; decide) rfl ?_
      intro v53 _ hs
      have hs := hs.imp .head (recs_snoc (c := dcR) (a := (TT.mk t3 k2, e3, ended)) (by omega) (fun j hj => lay13 j hj))
      refine s_pu (p_assign rfl) rfl ?_
      refine WL_nil ?_
      show W _ _ _ _ _ _
      refine W_reg ?_
      refine s_pu (p_move rfl) rfl ?_
      refine s_pu (p_addI rfl rfl ?_) rfl ?_
      ·
       (first | assumption | omega)
      refine s_pu (p_assign rfl) rfl ?_
      refine WL_th ?_
      have hs := hs.imp .t3 (hold_to (R' := fun w => ∀ r ∈ x.1 ++ [(TT.mk t3 k2, e3, ended)], RepT w r.1) (fun w h r hr => by rw [hx0] at hr; simp at hr; subst hr; exact h.like hk32))
      have hs := hs.front .t5
      have hs := hs.front .t5
      have hs := hs.front .t5
      have hs := hs.front .t3
      have hs := St.cut (G1 := [_, _, _, _]) hs
      refine ⟨(x.1 ++ [(TT.mk t3 k2, e3, ended)], v53), (Ext.cons rfl (Ext.cons rfl (Ext.cons rfl (Ext.cons (by show some (Value.int .i64 ((x.1.length : Int) + 1)) = _; simp) (Ext.nil _))))), ⟨by simp [hx0], by rw [hx0]; simp; exact ⟨hfit.like hk31.1 hk31.2, by simp only [TT.size] at hsz ⊢; exact hsz⟩, hs⟩, by simp [hx0]⟩
  ·
   have hx1l := hb16.2 h16
   refine W_exit ?_
   show W _ _ _ _ _ _
   refine W_sr ?_
   refine s_pu (p_move rfl) rfl ?_
   refine s_pu (p_assign rfl) rfl ?_
   refine WL_th ?_
   refine W_ret ?_
   refine ret_tmp (fn := Tryz.f8) rfl rfl ?_
   have hd : ∃ d, x.1 = [d] := List.length_eq_one_iff.1 hx1l
   obtain ⟨⟨t, e, en⟩, hd⟩ := hd
   have hs := hs.front .t3
   have hs := hs.front .t2
   have hs := hs.front .t2
   have hs := St.cut (G1 := [_, _, _]) hs
   rw [hd] at hs hxf
   have hs := hs.imp .t1 (hold_to (R' := fun w => RepT w t) (fun w h => h (t, e, en) (by simp)))
   exact hs.spec ⟨t, e, en, (hxf (t, e, en) (by simp)).1, (hxf (t, e, en) (by simp)).2, rfl⟩
end Go.Proofs.YtmalghopogngoaaGreatDoor
set_option linter.unusedVariables false
set_option linter.unusedSimpArgs false
namespace Go.Proofs.YtmalghopogngoaaGreatDoor.MW
open Go Go.RowKit
theorem wrU64 {n : Int} (h0 : 0 ≤ n) (h1 : n < 18446744073709551616) : IntKind.u64.wrap n = n := by rw [IntKind.wrap_u64]; omega
theorem wrU8 {n : Int} (h0 : 0 ≤ n) (h1 : n < 256) : IntKind.u8.wrap n = n := by rw [IntKind.wrap_u8]; omega
theorem wrU64_ge (n : Int) : 0 ≤ IntKind.u64.wrap n ∧ IntKind.u64.wrap n < 18446744073709551616 := by rw [IntKind.wrap_u64]; omega
theorem wrI64 {n : Int} (h : -9223372036854775808 ≤ n ∧ n ≤ 9223372036854775807) : IntKind.i64.wrap n = n := wrap_in n h
theorem bAnd_u64 (m n : Nat) (hm : m < 18446744073709551616) (hn : n < 18446744073709551616) : bitsV .and .u64 (m : Int) (n : Int) = ((m &&& n : Nat) : Int) := by
 have e1 : (BitVec.ofInt 64 (m : Int)).toNat = m := by simp [BitVec.toNat_ofInt]; omega
 have e2 : (BitVec.ofInt 64 (n : Int)).toNat = n := by simp [BitVec.toNat_ofInt]; omega
 have h1 : m &&& n ≤ m := Nat.and_le_left
 show IntKind.u64.wrap _ = _
 have e3 : ((BitVec.ofInt IntKind.u64.bits (m : Int) &&& BitVec.ofInt IntKind.u64.bits (n : Int)).toNat : Int) = ((m &&& n : Nat) : Int) := by
  rw [BitVec.toNat_and]
  show (((BitVec.ofInt 64 (m : Int)).toNat &&& (BitVec.ofInt 64 (n : Int)).toNat : Nat) : Int) = _
  rw [e1, e2]
 rw [e3, wrU64 (by omega) (by omega)]
theorem bMask_u64 (m k : Nat) (hm : m < 18446744073709551616) (hk : k < 64) : bitsV .and .u64 (m : Int) (2 ^ k - 1) = ((m % 2 ^ k : Nat) : Int) := by
 have hp : 0 < 2 ^ k := Nat.pow_pos (by decide)
 have hlt : 2 ^ k ≤ 2 ^ 63 := Nat.pow_le_pow_right (by decide) (by omega)
 have e : ((2 : Int) ^ k - 1) = ((2 ^ k - 1 : Nat) : Int) := by
  rw [Int.natCast_sub (by omega)]
  simp
 rw [e, bAnd_u64 m (2 ^ k - 1) hm (by have h63 : (2 : Nat) ^ 63 = 9223372036854775808 := (by decide); omega), Nat.and_two_pow_sub_one_eq_mod]
theorem bAnd_i64_63 (m : Int) : 0 ≤ bitsV .and .i64 m 63 ∧ bitsV .and .i64 m 63 ≤ 63 := by
 have h1 : (BitVec.ofInt 64 m &&& BitVec.ofInt 64 63).toNat ≤ 63 := by
  rw [BitVec.toNat_and]
  have : (BitVec.ofInt 64 63).toNat = 63 := by decide
  rw [this]
  exact Nat.and_le_right
 show 0 ≤ IntKind.i64.wrap ((BitVec.ofInt 64 m &&& BitVec.ofInt 64 63).toNat : Int) ∧ IntKind.i64.wrap ((BitVec.ofInt 64 m &&& BitVec.ofInt 64 63).toNat : Int) ≤ 63
 rw [wrap_in _ (by omega)]
 omega
theorem shrN (n k : Nat) (hk : k ≤ 64) : (n : Int).fdiv (2 ^ min (k : Int).toNat IntKind.u64.bits) = ((n / 2 ^ k : Nat) : Int) := by
 have e : min (k : Int).toNat IntKind.u64.bits = k := by
  show min (k : Int).toNat 64 = k
  rw [Int.toNat_natCast]
  omega
 rw [e, Int.fdiv_eq_ediv_of_nonneg _ (by exact Int.le_of_lt (Int.pow_pos (by decide)))]
 simp
theorem shlN (n k : Nat) (hk : k ≤ 64) (h : n * 2 ^ k < 18446744073709551616) : IntKind.u64.wrap ((n : Int) * 2 ^ min (k : Int).toNat IntKind.u64.bits) = ((n * 2 ^ k : Nat) : Int) := by
 have e : min (k : Int).toNat IntKind.u64.bits = k := by
  show min (k : Int).toNat 64 = k
  rw [Int.toNat_natCast]
  omega
 have e2 : ((n : Int) * 2 ^ k) = ((n * 2 ^ k : Nat) : Int) := by simp
 rw [e, e2, wrU64 (by omega) (by omega)]
end Go.Proofs.YtmalghopogngoaaGreatDoor.MW
set_option linter.unusedVariables false
set_option linter.unusedSimpArgs false
set_option maxRecDepth 4000
namespace Go.Proofs.YtmalghopogngoaaGreatDoor
open Go Go.RowKit MW
theorem MW.ret_cell2 {P : Program} {N : Nat} {e : Env} {w w0 : World} {F : Foot} {G G0 G1 : List Assn} {fn : Func} {R : Value → World → Prop} {r s T U n m b c : Nat} {T' U' : TypeId} {f g : Nat → Value} [hT : Agg P T n] [hU : Agg P U m] (hr : fn.results = #[.cell r T, .cell s U]) (hv : e r = some (.pointer (some ⟨b, 0, none⟩))) (hu : e s = some (.pointer (some ⟨c, 0, none⟩))) (hs : St w0 F w G) (hp : Pick G (pt b T' n f) G0) (hq : Pick G (pt c U' m g) G1)
  (h : R (.tuple #[.agg (mkA n f), .agg (mkA m g)]) w) : Qf P N fn R .ret e w := by
 refine ⟨.tuple #[.agg (mkA n f), .agg (mkA m g)], fun a ha => ?_, h⟩
 have hl := rl_loadA (P := P) (w := w) (T := T) (b := b) (o := 0) (g := f) fun i hi => by rw [Nat.zero_add]; exact pt_cell (hs.cell hp) i hi
 have hl2 := rl_loadA (P := P) (w := w) (T := U) (b := c) (o := 0) (g := g) fun i hi => by rw [Nat.zero_add]; exact pt_cell (hs.cell hq) i hi
 simp only [Instr.loadAt, Instr.sureAddr, Sem.run_bind, Sem.run_pure, Result.andThen_ok] at hl hl2
 have hg := ha.get _ _ hv
 have hg2 := ha.get _ _ hu
 rw [Array.getD_eq_getD_getElem?] at hg hg2
 simp [results, hr, hg, hg2, asAddr, hl, hl2]
theorem doc_root {t : TT} {e en : Bool} (i : Nat) (hi : i < 6) : recs 13 dcR [(t, e, en)] i = tc t.t i := by
 have h := recs_at (sz := 13) (c := dcR) (l := [(t, e, en)]) (i := 0) (j := i) rfl (by omega)
 rw [Nat.zero_mul, Nat.zero_add] at h
 rw [h]
 obtain ⟨⟨kind, value, anchor, tag, style, kv⟩, ks⟩ := t
 have key : ∀ i, i < 6 → dcR (TT.mk ⟨kind, value, anchor, tag, style, kv⟩ ks, e, en) i = tc ⟨kind, value, anchor, tag, style, kv⟩ i := (by repeat (first | exact below_zero | refine below_succ ?_ rfl))
 exact key i hi
theorem c_trNode {T : ByteArray → Prop} (hKn : KnownOK T) (hSg : SignedOK T) (hT : TreeOK 4) (tt : TT) (R : World → Prop) (hR : ∀ w, R w → RepT w tt) (hS : Small tt) :
  MW.Spec Tryz.prog 5 [.agg (mkA 6 (tc tt.t)), .int .i64 63].toArray [hold R] fun v G => ∃ (r : Rose) (t1 : TRec), v = .tuple #[.agg (mkA 19 (nc r.n)), .agg (mkA 6 (tc t1))] ∧ t1.kids.oneCell' = true ∧ Good T r ∧ r.size ≤ 1000000 ∧ G = [hold (fun w => RepN w r), hold R] := by
 intro wI S hsat
 have hs := St.start hsat
 refine calls_W (args := [_, _]) Tryz.func5 rfl Tryz.ntmps5 rfl ?_
 refine W_sr ?_
 refine k_box hs rfl rfl ?_
 intro b2 _ hs
 refine k_alloc hs rfl ?_
 intro b4 _ hs
 refine k_alloc hs rfl ?_
 intro b5 _ hs
 refine WL_th ?_
 refine W_sr ?_
 refine k_ldW hs rfl .t2 rfl ?_
 refine s_pu (p_st (.agg rfl rfl .nil)) rfl ?_
 refine k_bs hs (.agg rfl .nil) rfl rfl rfl ?_
 intro b8 _ hs
 refine s_pu (p_move rfl) rfl ?_
 have hs := hs.front .t4
 have hs := hs.front .t1
 refine k_spec [pt b8 43 13 _, hold R] (c_Fit hT tt R hR hS b8 _ false false ((by repeat (first | exact below_zero | refine below_succ ?_ rfl))) rfl rfl) hs (.cons rfl (.cons rfl .nil)) rfl ?_
 rintro v10 _ _ ⟨t1, e, en, hfit, hsz, rfl⟩ hs
 obtain ⟨t1, k1⟩ := t1
 obtain ⟨b10, cap10, rfl, _⟩ := (show ∃ g cap, v10 = .slice (some ⟨g, 0, none⟩) 1 cap ∧ True by obtain ⟨S1, h1⟩ := hs.pick .head; obtain ⟨g, cap, h2, _⟩ := row_cell h1 (by decide); exact ⟨g, cap, h2, trivial⟩)
 refine s_pu (p_elem rfl rfl ?_ ?_) rfl ?_
 ·
  (first | assumption | omega)
 ·
  (first | assumption | omega)
 refine s_pu (p_field rfl) rfl ?_
 refine s_at (m_loadA (n := 6) (b := b10) (o := 0 + (0 : Int).toNat * 13 + 0) (g := tc t1) rfl (fun (i : Nat) (hi : i < 6) => by obtain ⟨S1, h1⟩ := hs.pick .head; obtain ⟨g, cap, h2, h3⟩ := row_cell h1 (by decide); injection h2 with h2; injection h2 with h2; injection h2 with h2; subst h2; rw [show 0 + (0 : Int).toNat * 13 + 0 + i = i by show 0 + 0 * 13 + 0 + i = i; omega, h3 i (by omega)]; exact congrArg some (doc_root i hi))) rfl ?_
 refine k_stW hs rfl rfl .t5 (tc_one (hs.now (R := fun w => RepT w (.mk t1 k1)) .t1).kids.one) ?_
 intro _ hs
 refine WL_th ?_
 refine W_seq ?_
 refine h_start (S := fun w => w.heap[b2]? = some (.cells (mkA 6 (tc t1)) 24 (0, 0))) (ls := #[false, false, false, false, false]) (n := 5) (by kernel_rfl) (by kernel_rfl) ?_
 have hs := hs.drew
 refine h_take 0 rfl (ls' := #[true, false, false, false, false]) (by kernel_rfl) (fun _ _ _ h => h) rfl (hs.cell .t5) (fun w hw => q_ldW rfl hw) ?_
 refine h_take 2 rfl (ls' := #[true, false, true, false, false]) (by kernel_rfl) (fun _ _ _ h => h) rfl (hs.cell .t5) (fun w hw => q_ldW rfl hw) ?_
 refine h_one 1 rfl (ls' := #[true, true, true, false, false]) (by kernel_rfl) ?_
 have hs := hs.front .t1
 refine k_spec [hold (fun w => RepT w (.mk t1 k1))] (c_NodeOf hKn hSg (.mk t1 k1) hfit 1 1 (by decide) (by omega) _ (fun w h => h)) hs (.cons rfl (.cons rfl (.cons rfl .nil))) rfl ?_
 rintro _ _ _ ⟨r, rfl, hg, hrs, rfl⟩ hs
 refine WL_th ⟨(hs.cell .t6), ?_⟩
 refine h_one 3 rfl (ls' := #[true, true, true, true, false]) (by kernel_rfl) ?_
 refine k_stW hs rfl rfl .t5 (nc_one (hs.now (R := fun w => RepN w r) .head).one) ?_
 intro _ hs
 refine WL_th ⟨(hs.cell .t6), ?_⟩
 refine h_one 4 rfl (ls' := #[true, true, true, true, true]) (by kernel_rfl) ?_
 refine k_stW hs rfl rfl .t4 (tc_one (hs.now (R := fun w => RepT w (.mk t1 k1)) .t1).kids.one) ?_
 intro _ hs
 refine WL_th ⟨(hs.cell .t6), ?_⟩
 refine h_done (by kernel_rfl) ?_
 show W _ _ _ _ _ _
 refine W_forget (Ext.cd 4 rfl (Ext.cd 5 rfl (Ext.nil _))) ?_
 refine W_ret ?_
 have hone1 : t1.kids.oneCell' = true := (hs.now (R := fun w => RepT w (.mk t1 k1)) .t1).kids.one
 refine ret_cell2 (fn := Tryz.f5) (n := 19) (m := 6) rfl rfl rfl hs .t5 .t4 ?_
 have hs := hs.front .t3
 have hs := hs.front .t1
 have hs := St.cut (G1 := [_, _]) hs
 exact hs.spec ⟨r, t1, rfl, hone1, hg, by omega, rfl⟩
theorem c_Fn {Γ : Glob} {T : ByteArray → Prop} (hn : ToNumberOK Γ T) (hpb : ParseBoolOK) (hKn : KnownOK T) (hSg : SignedOK T) (hMW : MayWordOK) (tt : TT) (at_ : Int) (wI : World) (hG : Γ.p wI) (hRI : RepT wI tt) (hS : Small tt) : Quiet Tryz.prog 3 [.agg (mkA 6 (tc tt.t)), .int .i64 at_] wI fun v => v = .bool true := by
 have hT := c_tree hKn hMW 4
 obtain ⟨ad, cap, _, _, hkv, _⟩ := hRI.kids.out
 generalize tt.kids.length = n at hkv
 obtain ⟨R, hRdef⟩ : ∃ R : World → Prop, R = fun w' => ∀ b, b < wI.heap.size → w'.heap[b]? = wI.heap[b]? := ⟨_, rfl⟩
 have hSame : ∀ w', R w' → Sames wI w' := fun w' h b o hb => by
  subst hRdef
  rw [h b (Array.getElem?_eq_some_iff.1 hb).1]
  exact hb
 have hRT : ∀ w', R w' → RepT w' tt := fun w' h => hRI.keep (hSame w' h)
 have hfin : ∀ w', Keep (fun b => b < wI.heap.size) wI w' → R w' → Keep (fun _ => False) wI w' := fun w' hk h => by
  subst hRdef
  exact ⟨hk.os, hk.tape, hk.output, hk.size, fun b hb _ => h b hb⟩
 have hsat : Sat wI [hold R] (fun b => b < wI.heap.size) := by
  refine .cons (S1 := fun b => b < wI.heap.size) (S2 := fun _ => False) ?_ (fun _ h => h) (.nil fun _ => id) (fun _ _ => id) (fun b => ⟨.inl, fun h => h.elim id False.elim⟩)
  intro w' h
  subst hRdef
  exact fun b hb => h b hb
 have hs := St.start hsat
 refine calls_W (args := [_, _]) Tryz.func3 rfl Tryz.ntmps3 rfl ?_
 refine W_sr ?_
 refine k_box hs rfl rfl ?_
 intro b2 _ hs
 refine s_pu (p_assign rfl) rfl ?_
 refine WL_th ?_
 refine W_seq ?_
 refine W_sr ?_
 refine k_ldW hs rfl .head rfl ?_
 refine k_quiet (c_zzFits1 _ ad n cap hkv _) hs (.cons rfl .nil) rfl ?_
 rintro _ _ ⟨zb, rfl⟩ hs _
 refine s_pu (p_not rfl) rfl ?_
 refine WL_th ?_
 refine W_if rfl (fun ht15 => ?_) (fun ht15 => ?_)
 ·
  refine W_sr ?_
  refine s_pu (p_assign rfl) rfl ?_
  refine WL_th ?_
  refine W_ret ?_
  refine th_ret ?_
  refine ret_tmp (fn := Tryz.f3) rfl rfl ?_
  refine ⟨rfl, hfin _ hs.keep (hs.now .t1)⟩
 ·
  refine W_skip_th ?_
  refine W_sr ?_
  refine k_ldW hs rfl .head rfl ?_
  have hs := hs.front .t1
  refine k_spec [hold R] (c_trNode hKn hSg hT tt R hRT hS) hs (.cons rfl (.cons rfl .nil)) rfl ?_
  rintro _ _ _ ⟨r, t1, rfl, t1one, hg, hrs, rfl⟩ hs
  have hone := nc_one (hs.now (R := fun w => RepN w r) .head).one
  refine s_pu (p_move rfl) rfl ?_
  refine s_pu (p_extract rfl rfl) rfl ?_
  refine s_pu (p_extract rfl rfl) rfl ?_
  refine k_alloc hs rfl ?_
  intro b5 _ hs
  refine k_alloc hs rfl ?_
  intro b6 _ hs
  refine k_stW hs rfl rfl .t1 hone ?_
  intro _ hs
  refine k_stW hs rfl rfl .head (tc_one t1one) ?_
  intro _ hs
  refine WL_th ?_
  refine W_forget (Ext.cd 1 rfl (Ext.cd 5 rfl (Ext.nil _))) ?_
  refine W_sr ?_
  refine k_ldW hs rfl .t1 rfl ?_
  refine k_fresh (c_Parents r.size r (Nat.le_refl _) hrs _ (hs.now .t2)) hs (.cons rfl .nil) rfl ?_
  rintro v22 _ _ rfl hs _
  have hlen : (r.shape.par.map (Value.int .i64)).length = r.shape.size := by rw [List.length_map, par_length]
  obtain ⟨S1, hrow1⟩ := hs.pick .head
  obtain ⟨ad1, cap1, hv1, hall1⟩ := rowL_cell hrow1
  rw [hlen] at hv1
  have hss := rose_size r
  have hs1 := one_le_size r
  refine s_pu (p_assign rfl) rfl ?_
  refine WL_th ?_
  refine W_seq ?_
  refine W_sr ?_
  refine s_pu (p_move rfl) rfl ?_
  refine s_pu (p_lenL (ad := ad1) (l := r.shape.size) (c := cap1) (by show some v22 = _; rw [hv1])) rfl ?_
  refine s_pu (p_eqI rfl rfl) rfl ?_
  refine WL_th ?_
  refine W_if rfl (fun h25 => ?_) (fun h25 => ?_)
  ·
   have hsz1 : r.shape.size = 1 := by have := eq_of_beq h25; omega
   refine W_sr ?_
   refine k_ldW hs rfl .t2 rfl ?_
   have hRw := hs.now .t4
   refine k_quiet (c_ParentTree hn hpb r hg hrs _ (by decide) _ (Γ.keep _ _ hG (hSame _ hRw)) (hs.now .t3)) hs (.cons rfl (.cons rfl .nil)) rfl ?_
   rintro _ _ rfl hs _
   refine s_pu (p_move rfl) rfl ?_
   refine s_pu (p_extract rfl rfl) rfl ?_
   refine s_pu (p_extract rfl rfl) rfl ?_
   refine k_alloc hs rfl ?_
   intro b9 _ hs
   refine s_pu (p_assign rfl) rfl ?_
   refine k_stW hs rfl rfl .head (by repeat (first | exact below_zero | refine below_succ ?_ rfl)) ?_
   intro _ hs
   refine WL_th ?_
   refine W_forget (Ext.cd 8 rfl (Ext.cd 9 rfl (Ext.nil _))) ?_
   refine W_sr ?_
   refine s_pu (p_field rfl) rfl ?_
   refine k_ld hs rfl .head rfl rfl ?_
   refine s_pu (p_eqI rfl rfl) rfl ?_
   refine s_pu (p_move rfl) rfl ?_
   refine WL_cutb 3 37 [] (fun b => b = true) ?_ ?_
   ·
    refine s_bool 34 rfl (fun hb34 => ?_) (fun hb34 => ?_)
    ·
     refine g_take rfl rfl rfl ?_
     refine s_pu (p_move rfl) rfl ?_
     refine g_take rfl rfl rfl ?_
     refine s_pu (p_eqI rfl rfl) rfl ?_
     refine s_pu (p_pickT rfl rfl) rfl ?_
     refine WL_th ⟨rfl, _, ?_, Ext.cons rfl ext_kn⟩
     show (parentI r.shape 1 == -1) = true; unfold parentI; rw [hsz1]; rfl
    ·
     refine g_skip rfl rfl rfl rfl rfl ?_
     refine g_skip rfl rfl rfl rfl rfl ?_
     refine s_pu (p_pickF rfl rfl) rfl ?_
     refine WL_th ⟨rfl, _, ?_, Ext.cons rfl ext_kn⟩
     exact absurd hb34 (by decide)
   ·
    intro b37 hb37
    refine WL_forget (Ext.cd 37 rfl (Ext.nil _)) ?_
    show WL _ _ _ (_ :: _) _ _ _
    refine s_pu (p_assign rfl) rfl ?_
    refine WL_th ?_
    refine W_ret ?_
    refine th_ret ?_
    refine ret_tmp (fn := Tryz.f3) rfl rfl ?_
    refine ⟨by rw [hb37], hfin _ hs.keep (hs.now .t5)⟩
  ·
   have hsz2 : r.shape.size ≠ 1 := fun h => by rw [h] at h25; exact absurd h25 (by decide)
   refine W_skip_th ?_
   refine W_sr ?_
   refine s_pu (p_move rfl) rfl ?_
   refine s_pu (p_conv rfl) rfl ?_
   obtain ⟨hu1, hu2⟩ := wrU64_ge at_
   generalize IntKind.u64.wrap at_ = ua at hu1 hu2 ⊢
   refine s_pu (p_move rfl) rfl ?_
   refine s_pu (p_lenL (ad := ad1) (l := r.shape.size) (c := cap1) (by show some v22 = _; rw [hv1])) rfl ?_
   refine s_pu (p_subI rfl rfl ?_) rfl ?_
   ·
    (omega)
   refine s_pu (p_conv rfl) rfl ?_
   rw [wrU64 (n := (r.shape.size : Int) - 1) (by omega) (by omega)]
   refine s_pu (p_rem rfl rfl ?_) rfl ?_
   ·
    omega
   have hm1 := Int.tmod_lt_of_pos ua (show (0 : Int) < (r.shape.size : Int) - 1 by omega)
   have hm2 := Int.tmod_nonneg ((r.shape.size : Int) - 1) hu1
   refine s_pu (p_conv rfl) rfl ?_
   rw [wrI64 (n := ua.tmod ((r.shape.size : Int) - 1)) (by omega)]
   generalize ua.tmod ((r.shape.size : Int) - 1) = um at hm1 hm2 ⊢
   refine s_pu (p_addI rfl rfl ?_) rfl ?_
   ·
    (omega)
   refine s_pu (p_assign rfl) rfl ?_
   refine WL_th ?_
   refine W_forget (Ext.cd 5 rfl (Ext.cd 7 rfl (Ext.cd 10 rfl (Ext.nil _)))) ?_
   refine W_sr ?_
   refine k_ldW hs rfl .t2 rfl ?_
   refine s_pu (p_move rfl) rfl ?_
   have hRw := hs.now .t4
   refine k_quiet (c_ParentTree hn hpb r hg hrs _ (by omega) _ (Γ.keep _ _ hG (hSame _ hRw)) (hs.now .t3)) hs (.cons rfl (.cons rfl .nil)) rfl ?_
   rintro _ _ rfl hs _
   refine s_pu (p_move rfl) rfl ?_
   refine s_pu (p_extract rfl rfl) rfl ?_
   refine s_pu (p_extract rfl rfl) rfl ?_
   refine k_alloc hs rfl ?_
   intro b12 _ hs
   refine s_pu (p_assign rfl) rfl ?_
   refine k_stW hs rfl rfl .head (by repeat (first | exact below_zero | refine below_succ ?_ rfl)) ?_
   intro _ hs
   refine WL_th ?_
   refine W_sr ?_
   refine s_pu (p_field rfl) rfl ?_
   refine k_ld hs rfl .head rfl rfl ?_
   refine s_pu (p_eqI rfl rfl) rfl ?_
   refine s_pu (p_move rfl) rfl ?_
   refine WL_cutb 7 63 [] (fun b => b = true) ?_ ?_
   ·
    refine s_bool 56 rfl (fun hb56 => ?_) (fun hb56 => ?_)
    ·
     refine g_take rfl rfl rfl ?_
     refine s_pu (p_move rfl) rfl ?_
     refine g_take rfl rfl rfl ?_
     refine s_pu (p_move rfl) rfl ?_
     refine g_take rfl rfl rfl ?_
     refine s_pu (p_move rfl) rfl ?_
     refine g_take rfl rfl rfl ?_
     obtain ⟨px, hpx⟩ : ∃ px, r.shape.par[(1 + um).toNat]? = some px := ⟨_, List.getElem?_eq_getElem (by rw [par_length]; omega)⟩
     obtain ⟨b0, hb0, _⟩ := hall1 (1 + um).toNat (.int .i64 px) (by rw [List.getElem?_map, hpx]; rfl)
     refine s_pu (p_elem (b := b0) (o := 0) (l := r.shape.size) (c := cap1) (by show some v22 = _; rw [hv1, hb0]) rfl (by omega) (by omega)) rfl ?_
     refine g_take rfl rfl rfl ?_
     refine kc_ldv (v := .int .i64 px) (a := ⟨b0, 0 + (1 + um).toNat * 1, none⟩) (by obtain ⟨S2, hrow2⟩ := hs.pick .t1; exact rowL_at hrow2 (by rw [hv1, hb0]) (by rw [List.getElem?_map, hpx]; rfl)) rfl rfl rfl ?_
     refine g_take rfl rfl rfl ?_
     refine s_pu (p_eqI rfl rfl) rfl ?_
     refine s_pu (p_pickT rfl rfl) rfl ?_
     refine WL_th ⟨rfl, _, ?_, Ext.cons rfl ext_kn⟩
     show (parentI r.shape (1 + um) == px) = true; unfold parentI; rw [if_neg (by omega), hpx]; simp
    ·
     refine g_skip rfl rfl rfl rfl rfl ?_
     refine g_skip rfl rfl rfl rfl rfl ?_
     refine g_skip rfl rfl rfl rfl rfl ?_
     refine g_skip rfl rfl rfl rfl rfl ?_
     refine g_skip rfl rfl rfl rfl rfl ?_
     refine g_skip rfl rfl rfl rfl rfl ?_
     refine s_pu (p_pickF rfl rfl) rfl ?_
     refine WL_th ⟨rfl, _, ?_, Ext.cons rfl ext_kn⟩
     exact absurd hb56 (by decide)
   ·
    intro b63 hb63
    refine WL_forget (Ext.cd 63 rfl (Ext.nil _)) ?_
    show WL _ _ _ (_ :: _) _ _ _
    refine s_pu (p_assign rfl) rfl ?_
    refine WL_th ?_
    refine W_ret ?_
    refine ret_tmp (fn := Tryz.f3) rfl rfl ?_
    refine ⟨by rw [hb63], hfin _ hs.keep (hs.now .t5)⟩
end Go.Proofs.YtmalghopogngoaaGreatDoor
namespace Go.Proofs.YtmalghopogngoaaGreatDoor
open Go Go.ChangeShapes Go.WideShapes Go.RowKit MW
section
variable {H : Type}
theorem bulk_pos (d : DataW H) : 1 ≤ Rows.uptoBulk d := by
 cases d with
 | lit l => cases l <;> simp only [Rows.uptoBulk] <;> omega
 | _ => simp only [Rows.uptoBulk] <;> omega
theorem bulk_len : ∀ l : List (DataW H), l.length ≤ Rows.uptoBulkAll l
 | [] => Nat.zero_le _
 | d :: r => by
  have := bulk_pos d
  have := bulk_len r
  simp only [Rows.uptoBulkAll, List.length_cons]
  omega
theorem bulk_mem : ∀ {l : List (DataW H)} {d : DataW H}, d ∈ l → Rows.uptoBulk d ≤ Rows.uptoBulkAll l
 | [], d, h => by simp at h
 | c :: r, d, h => by
  simp only [Rows.uptoBulkAll]
  rcases List.mem_cons.1 h with rfl | h
  ·
   omega
  ·
   have := bulk_mem h
   omega
theorem cells24 : Tryz.prog.cellsOf 24 = 6 := by kernel_rfl
theorem cells3 : Tryz.prog.cellsOf 3 = 1 := by kernel_rfl
theorem cells9 : Tryz.prog.cellsOf 9 = 1 := by kernel_rfl
theorem cells22 : Tryz.prog.cellsOf 22 = 1 := by kernel_rfl
theorem six {cs : List Value} (h : cs.length = 6) : ∃ a b c d e f, cs = [a, b, c, d, e, f] := by
 match cs, h with
 | [a, b, c, d, e, f], _ => exact ⟨a, b, c, d, e, f, rfl⟩
variable {enc : TypeId × Value → H} {w : World}
theorem add_pl (b o i : Nat) : (⟨b, o, none⟩ : Addr).add i = ⟨b, o + i, none⟩ := by
 unfold Addr.add
 split
 ·
  subst_vars
  rfl
 ·
  rfl
theorem tl_at {t : TRec} {j : Nat} (hj : j < 6) : (tl t)[j]? = some (tc t j) := by
 have h' : j = 0 ∨ j = 1 ∨ j = 2 ∨ j = 3 ∨ j = 4 ∨ j = 5 := by omega
 rcases h' with rfl | rfl | rfl | rfl | rfl | rfl <;> rfl
def Opened (w : World) (cs : List Value) (d : DataW H) (tt : TT) : Prop := cs = tl tt.t ∧ RepT w tt ∧ (Rows.uptoBulk d ≤ 1048576 → Small tt)
instance : Inhabited TT := ⟨.mk ⟨0, ⟨#[]⟩, ⟨#[]⟩, ⟨#[]⟩, 0, .slice none 0 0⟩ []⟩
theorem open_tt : ∀ (fuel : Nat) (cs : List Value) (x : DataW H × List MemPlace), DataW.trod enc Tryz.prog w 0 (fun _ => true) true fuel 24 cs = some x → ∃ tt : TT, Opened w cs x.1 tt := by
 intro fuel
 induction fuel using Nat.strongRecOn with
 | _ fuel ih =>
  intro cs x h
  obtain ⟨xs, n, rfl, rfl, hlen, hxl, hel⟩ := DataW.trod_struct Tryz.underlying24 h
  rw [cells24] at hlen
  obtain ⟨c0, c1, c2, c3, c4, c5, rfl⟩ := six hlen
  have hxl : xs.length = 6 := hxl
  match xs, hxl with
  | [x0, x1, x2, x3, x4, x5], _ =>
   have e0 : DataW.trod enc Tryz.prog w 0 (fun _ => true) true n 3 (([c0, c1, c2, c3, c4, c5].drop 0).take (Tryz.prog.cellsOf 3)) = some x0 := hel 0 _ rfl
   rw [cells3] at e0
   have e1 : DataW.trod enc Tryz.prog w 0 (fun _ => true) true n 9 (([c0, c1, c2, c3, c4, c5].drop 1).take (Tryz.prog.cellsOf 9)) = some x1 := hel 1 _ rfl
   rw [cells9] at e1
   have e2 : DataW.trod enc Tryz.prog w 0 (fun _ => true) true n 9 (([c0, c1, c2, c3, c4, c5].drop 2).take (Tryz.prog.cellsOf 9)) = some x2 := hel 2 _ rfl
   rw [cells9] at e2
   have e3 : DataW.trod enc Tryz.prog w 0 (fun _ => true) true n 9 (([c0, c1, c2, c3, c4, c5].drop 3).take (Tryz.prog.cellsOf 9)) = some x3 := hel 3 _ rfl
   rw [cells9] at e3
   have e4 : DataW.trod enc Tryz.prog w 0 (fun _ => true) true n 3 (([c0, c1, c2, c3, c4, c5].drop 4).take (Tryz.prog.cellsOf 3)) = some x4 := hel 4 _ rfl
   rw [cells3] at e4
   have e5 : DataW.trod enc Tryz.prog w 0 (fun _ => true) true n 22 (([c0, c1, c2, c3, c4, c5].drop 5).take (Tryz.prog.cellsOf 22)) = some x5 := hel 5 _ rfl
   rw [cells22] at e5
   clear hel
   obtain ⟨kind, he0, hx0, _⟩ := DataW.trod_int Tryz.underlying3 e0
   obtain ⟨value, he1, hx1, _⟩ := DataW.trod_string Tryz.underlying9 e1
   obtain ⟨anchor, he2, hx2, _⟩ := DataW.trod_string Tryz.underlying9 e2
   obtain ⟨tag, he3, hx3, _⟩ := DataW.trod_string Tryz.underlying9 e3
   obtain ⟨style, he4, hx4, _⟩ := DataW.trod_int Tryz.underlying3 e4
   have he0 : [c0] = [.int .i64 kind] := he0
   have he1 : [c1] = [.string value] := he1
   have he2 : [c2] = [.string anchor] := he2
   have he3 : [c3] = [.string tag] := he3
   have he4 : [c4] = [.int .i64 style] := he4
   cases he0
   cases he1
   cases he2
   cases he3
   cases he4
   subst hx0 hx1 hx2 hx3 hx4
   have hsl : ∃ ks : List TT, TreesAt w c5 ks ∧ (∀ k ∈ ks, RepT w k) ∧ (Rows.uptoBulk x5.1 ≤ 1048576 → ks.length ≤ 1048576 ∧ ∀ k ∈ ks, Small k) := by
    rcases DataW.trod_slice Tryz.underlying22 e5 with ⟨hc, hx⟩ | ⟨a, len, cap, elems, rest, n', hn', hc, hx, _, hl, _, hel, hD, _⟩
    ·
     have hc : [c5] = [.slice none 0 0] := hc
     cases hc
     exact ⟨[], .empty rfl, fun k hk => by simp at hk, fun _ => ⟨by simp, fun k hk => by simp at hk⟩⟩
    ·
     have hc : [c5] = [.slice (some a) len cap] := hc
     cases hc
     have hex : ∀ i, i < len → ∃ tt : TT, ∃ cs' y, elems[i]? = some y ∧ w.cells? 0 (a.add (i * Tryz.prog.cellsOf 24)) (Tryz.prog.cellsOf 24) = some cs' ∧ Opened w cs' y.1 tt := fun i hi => by
      have hE := hD i hi
      rw [List.getElem?_eq_getElem (by omega)] at hE
      obtain ⟨cs', h1, h2⟩ := Option.bind_eq_some_iff.1 hE
      obtain ⟨tt, ht⟩ := ih n' (by omega) cs' _ h2
      exact ⟨tt, cs', _, List.getElem?_eq_getElem (by omega), h1, ht⟩
     obtain ⟨f, hf⟩ := Go.Deep.choose_lt hex
     refine ⟨(List.range len).map f, ?_, ?_, ?_⟩
     ·
      refine ⟨some a, cap, by simp, fun i k hk => ?_⟩
      obtain ⟨hi, rfl⟩ : i < len ∧ f i = k := by
       rw [List.getElem?_map] at hk
       obtain ⟨j, hj, rfl⟩ := Option.map_eq_some_iff.1 hk
       obtain ⟨h1, h2⟩ := List.getElem?_eq_some_iff.1 hj
       rw [List.getElem_range] at h2
       subst h2
       exact ⟨by simpa using h1, rfl⟩
      obtain ⟨cs', y, _, h1, h2, _, _⟩ := hf i hi
      obtain ⟨_, _, h3⟩ := World.cells?_some h1
      rw [cells24] at h3
      have hspot : a.spot = none := by
       obtain ⟨cs0, y0, _, g1, g2, _, _⟩ := hf 0 (by omega)
       obtain ⟨_, _, g3⟩ := World.cells?_some g1
       rw [cells24] at g3
       have g0 := g3 0 (by decide)
       simpa [Addr.add] using World.cell?_spot (g0.trans (by rw [g2]; rfl))
      obtain ⟨b, o, sp⟩ := a
      have hspot : sp = none := hspot
      subst hspot
      refine ⟨b, o, rfl, fun j hj => ?_⟩
      have h4 := h3 j hj
      rw [h2] at h4
      have h5 : (tl (f i).t)[j]? = some (tc (f i).t j) := tl_at hj
      rw [h5] at h4
      rw [add_pl, add_pl] at h4
      exact h4
     ·
      intro k hk
      obtain ⟨i, hi, rfl⟩ := List.mem_map.1 hk
      obtain ⟨_, _, _, _, _, h, _⟩ := hf i (List.mem_range.1 hi)
      exact h
     ·
      intro hb
      rw [hx] at hb
      simp only [Rows.uptoBulk] at hb
      have hL := bulk_len (elems.map (·.1))
      simp only [List.length_map] at hL
      refine ⟨by simp; omega, fun k hk => ?_⟩
      obtain ⟨i, hi, rfl⟩ := List.mem_map.1 hk
      obtain ⟨_, y, hy, _, _, _, h⟩ := hf i (List.mem_range.1 hi)
      have := bulk_mem (List.mem_map_of_mem (f := (·.1)) (List.mem_of_getElem? hy))
      exact h (by omega)
   obtain ⟨ks, hT, hR, hS⟩ := hsl
   refine ⟨.mk ⟨kind, value, anchor, tag, style, c5⟩ ks, rfl, .mk hT hR, fun hb => ?_⟩
   simp only [List.map_cons, List.map_nil, Rows.uptoBulk, Rows.uptoBulkAll, Array.length_toList] at hb
   obtain ⟨hS1, hS2⟩ := hS (by omega)
   have v1 : value.data.size = value.size := rfl
   have v2 : anchor.data.size = anchor.size := rfl
   have v3 : tag.data.size = tag.size := rfl
   exact .mk (by show value.size ≤ _; omega) (by show anchor.size ≤ _; omega) (by show tag.size ≤ _; omega) (by omega) hS2
end
end Go.Proofs.YtmalghopogngoaaGreatDoor
set_option linter.unusedVariables false
set_option linter.unusedSimpArgs false
set_option maxRecDepth 4000
namespace Go.Proofs.YtmalghopogngoaaGreatDoor
open Go Go.RowKit MW
theorem c_ParseBool83 (s : ByteArray) (hT : BoolText s) (wI : World) : Quiet Tryz.prog 83 [.string s] wI fun v => ∃ b, v = .tuple #[.bool b, .nilIface] := by
 refine calls_W (args := [_]) Tryz.func83 rfl Tryz.ntmps83 rfl ?_
 refine W_sr ?_
 refine s_pu (p_assign rfl) rfl ?_
 refine s_pu (p_assign rfl) rfl ?_
 refine WL_th ?_
 refine W_seq ?_
 refine W_sr ?_
 refine s_pu (p_move rfl) rfl ?_
 refine WL_th ?_
 refine W_block ?_
 refine W_join (fun e' w' => ∃ b : Bool, (b = false → (s.toList == (⟨#[49]⟩ : ByteArray).toList) = false ∧ (s.toList == (⟨#[116]⟩ : ByteArray).toList) = false ∧ (s.toList == (⟨#[84]⟩ : ByteArray).toList) = false ∧ (s.toList == (⟨#[116, 114, 117, 101]⟩ : ByteArray).toList) = false ∧ (s.toList == (⟨#[84, 82, 85, 69]⟩ : ByteArray).toList) = false ∧ (s.toList == (⟨#[84, 114, 117, 101]⟩ : ByteArray).toList) = false) ∧ (b = true → (s.toList == (⟨#[49]⟩ : ByteArray).toList) = true ∨ (s.toList == (⟨#[116]⟩ : ByteArray).toList) = true ∨ (s.toList == (⟨#[84]⟩ : ByteArray).toList) = true ∨ (s.toList == (⟨#[116, 114, 117, 101]⟩ : ByteArray).toList) = true ∨ (s.toList == (⟨#[84, 82, 85, 69]⟩ : ByteArray).toList) = true ∨ (s.toList == (⟨#[84, 114, 117, 101]⟩ : ByteArray).toList) = true) ∧ Ext e' (upd (upd emp 4 (.string s)) 5 (.bool b)) ∧ wI = w') ?_ ?_
 ·
  refine W_sr ?_
  refine s_pu (p_eqS rfl rfl) rfl ?_
  refine s_pu (p_assign rfl) rfl ?_
  refine WL_th ?_
  refine W_if rfl (fun h0 => ?_) (fun h0 => ?_)
  ·
   refine W_skip_th ?_
   refine ⟨_, fun hf => ?_, fun _ => .inl h0, (Ext.cons rfl (Ext.cons rfl (Ext.nil _))), rfl⟩
   rw [h0] at hf; cases hf
  ·
   refine W_sr ?_
   refine s_pu (p_eqS rfl rfl) rfl ?_
   refine s_pu (p_assign rfl) rfl ?_
   refine WL_th ?_
   refine W_if rfl (fun h1 => ?_) (fun h1 => ?_)
   ·
    refine W_skip_th ?_
    refine ⟨_, fun hf => ?_, fun _ => .inr (.inl h1), (Ext.cons rfl (Ext.cons rfl (Ext.nil _))), rfl⟩
    rw [h1] at hf; cases hf
   ·
    refine W_sr ?_
    refine s_pu (p_eqS rfl rfl) rfl ?_
    refine s_pu (p_assign rfl) rfl ?_
    refine WL_th ?_
    refine W_if rfl (fun h2 => ?_) (fun h2 => ?_)
    ·
     refine W_skip_th ?_
     refine ⟨_, fun hf => ?_, fun _ => .inr (.inr (.inl h2)), (Ext.cons rfl (Ext.cons rfl (Ext.nil _))), rfl⟩
     rw [h2] at hf; cases hf
    ·
     refine W_sr ?_
     refine s_pu (p_eqS rfl rfl) rfl ?_
     refine s_pu (p_assign rfl) rfl ?_
     refine WL_th ?_
     refine W_if rfl (fun h3 => ?_) (fun h3 => ?_)
     ·
      refine W_skip_th ?_
      refine ⟨_, fun hf => ?_, fun _ => .inr (.inr (.inr (.inl h3))), (Ext.cons rfl (Ext.cons rfl (Ext.nil _))), rfl⟩
      rw [h3] at hf; cases hf
     ·
      refine W_sr ?_
      refine s_pu (p_eqS rfl rfl) rfl ?_
      refine s_pu (p_assign rfl) rfl ?_
      refine WL_th ?_
      refine W_if rfl (fun h4 => ?_) (fun h4 => ?_)
      ·
       refine W_skip_th ?_
       refine ⟨_, fun hf => ?_, fun _ => .inr (.inr (.inr (.inr (.inl h4)))), (Ext.cons rfl (Ext.cons rfl (Ext.nil _))), rfl⟩
       rw [h4] at hf; cases hf
      ·
       refine W_reg ?_
       refine s_pu (p_eqS rfl rfl) rfl ?_
       refine s_pu (p_assign rfl) rfl ?_
       refine WL_th ?_
       exact ⟨_, fun hf => ⟨h0, h1, h2, h3, h4, hf⟩, fun ht => .inr (.inr (.inr (.inr (.inr (ht))))), (Ext.cons rfl (Ext.cons rfl (Ext.nil _))), rfl⟩
 ·
  rintro _ _ ⟨b0, n0, y0, hx, rfl⟩
  refine W_forget hx ?_
  clear hx
  refine W_if rfl (fun h5 => ?_) (fun h5 => ?_)
  ·
   refine W_sr ?_
   refine s_pu (p_assign rfl) rfl ?_
   refine s_pu (p_assign rfl) rfl ?_
   refine WL_th ?_
   refine W_ret ?_
   refine bl_ret ?_
   refine th_ret ?_
   refine ret_tmp2 (fn := Tryz.f83) rfl rfl rfl ?_
   exact ⟨⟨true, rfl⟩, .refl _ _⟩
  ·
   refine W_join (fun e' w' => ∃ b : Bool, (b = false → (s.toList == (⟨#[48]⟩ : ByteArray).toList) = false ∧ (s.toList == (⟨#[102]⟩ : ByteArray).toList) = false ∧ (s.toList == (⟨#[70]⟩ : ByteArray).toList) = false ∧ (s.toList == (⟨#[102, 97, 108, 115, 101]⟩ : ByteArray).toList) = false ∧ (s.toList == (⟨#[70, 65, 76, 83, 69]⟩ : ByteArray).toList) = false ∧ (s.toList == (⟨#[70, 97, 108, 115, 101]⟩ : ByteArray).toList) = false) ∧ (b = true → (s.toList == (⟨#[48]⟩ : ByteArray).toList) = true ∨ (s.toList == (⟨#[102]⟩ : ByteArray).toList) = true ∨ (s.toList == (⟨#[70]⟩ : ByteArray).toList) = true ∨ (s.toList == (⟨#[102, 97, 108, 115, 101]⟩ : ByteArray).toList) = true ∨ (s.toList == (⟨#[70, 65, 76, 83, 69]⟩ : ByteArray).toList) = true ∨ (s.toList == (⟨#[70, 97, 108, 115, 101]⟩ : ByteArray).toList) = true) ∧ Ext e' (upd (upd emp 4 (.string s)) 12 (.bool b)) ∧ wI = w') ?_ ?_
   ·
    refine W_sr ?_
    refine s_pu (p_eqS rfl rfl) rfl ?_
    refine s_pu (p_assign rfl) rfl ?_
    refine WL_th ?_
    refine W_if rfl (fun h6 => ?_) (fun h6 => ?_)
    ·
     refine W_skip_th ?_
     refine ⟨_, fun hf => ?_, fun _ => .inl h6, (Ext.cons rfl (Ext.cons rfl (Ext.nil _))), rfl⟩
     rw [h6] at hf; cases hf
    ·
     refine W_sr ?_
     refine s_pu (p_eqS rfl rfl) rfl ?_
     refine s_pu (p_assign rfl) rfl ?_
     refine WL_th ?_
     refine W_if rfl (fun h7 => ?_) (fun h7 => ?_)
     ·
      refine W_skip_th ?_
      refine ⟨_, fun hf => ?_, fun _ => .inr (.inl h7), (Ext.cons rfl (Ext.cons rfl (Ext.nil _))), rfl⟩
      rw [h7] at hf; cases hf
     ·
      refine W_sr ?_
      refine s_pu (p_eqS rfl rfl) rfl ?_
      refine s_pu (p_assign rfl) rfl ?_
      refine WL_th ?_
      refine W_if rfl (fun h8 => ?_) (fun h8 => ?_)
      ·
       refine W_skip_th ?_
       refine ⟨_, fun hf => ?_, fun _ => .inr (.inr (.inl h8)), (Ext.cons rfl (Ext.cons rfl (Ext.nil _))), rfl⟩
       rw [h8] at hf; cases hf
      ·
       refine W_sr ?_
       refine s_pu (p_eqS rfl rfl) rfl ?_
       refine s_pu (p_assign rfl) rfl ?_
       refine WL_th ?_
       refine W_if rfl (fun h9 => ?_) (fun h9 => ?_)
       ·
        refine W_skip_th ?_
        refine ⟨_, fun hf => ?_, fun _ => .inr (.inr (.inr (.inl h9))), (Ext.cons rfl (Ext.cons rfl (Ext.nil _))), rfl⟩
        rw [h9] at hf; cases hf
       ·
        refine W_sr ?_
        refine s_pu (p_eqS rfl rfl) rfl ?_
        refine s_pu (p_assign rfl) rfl ?_
        refine WL_th ?_
        refine W_if rfl (fun h10 => ?_) (fun h10 => ?_)
        ·
         refine W_skip_th ?_
         refine ⟨_, fun hf => ?_, fun _ => .inr (.inr (.inr (.inr (.inl h10)))), (Ext.cons rfl (Ext.cons rfl (Ext.nil _))), rfl⟩
         rw [h10] at hf; cases hf
        ·
         refine W_reg ?_
         refine s_pu (p_eqS rfl rfl) rfl ?_
         refine s_pu (p_assign rfl) rfl ?_
         refine WL_th ?_
         exact ⟨_, fun hf => ⟨h6, h7, h8, h9, h10, hf⟩, fun ht => .inr (.inr (.inr (.inr (.inr (ht))))), (Ext.cons rfl (Ext.cons rfl (Ext.nil _))), rfl⟩
   ·
    rintro _ _ ⟨b1, n1, y1, hx, rfl⟩
    refine W_forget hx ?_
    clear hx
    refine W_if rfl (fun h11 => ?_) (fun h11 => ?_)
    ·
     refine W_sr ?_
     refine s_pu (p_assign rfl) rfl ?_
     refine s_pu (p_assign rfl) rfl ?_
     refine WL_th ?_
     refine W_ret ?_
     refine bl_ret ?_
     refine th_ret ?_
     refine ret_tmp2 (fn := Tryz.f83) rfl rfl rfl ?_
     exact ⟨⟨false, rfl⟩, .refl _ _⟩
    ·
     refine W_skip ?_
     show W _ _ _ _ _ _
     refine W_sr ?_
     refine s_pu (p_iface rfl) rfl ?_
     refine s_pu (p_assign rfl) rfl ?_
     refine s_pu (p_assign rfl) rfl ?_
     refine WL_th ?_
     refine W_ret ?_
     refine ret_tmp2 (fn := Tryz.f83) rfl rfl rfl ?_
     exfalso
     obtain ⟨_, _, _, a4, a5, a6⟩ := n0 (by assumption)
     obtain ⟨_, _, _, c4, c5, c6⟩ := n1 (by assumption)
     rcases hT with rfl | rfl | rfl | rfl | rfl | rfl
     ·
      exact absurd a4 (by decide +kernel)
     ·
      exact absurd a6 (by decide +kernel)
     ·
      exact absurd a5 (by decide +kernel)
     ·
      exact absurd c4 (by decide +kernel)
     ·
      exact absurd c6 (by decide +kernel)
     ·
      exact absurd c5 (by decide +kernel)
theorem c_ParseBool : ParseBoolOK := by
 intro s wI hT
 have hs := St.startNone wI
 refine calls_W (args := [_]) Tryz.func65 rfl Tryz.ntmps65 rfl ?_
 refine W_sr ?_
 refine s_pu (p_assign rfl) rfl ?_
 refine s_pu (p_assign rfl) rfl ?_
 refine WL_th ?_
 refine W_sr ?_
 refine s_pu (p_move rfl) rfl ?_
 refine k_quiet (c_ParseBool83 s hT _) hs (.cons rfl .nil) rfl ?_
 rintro _ _ ⟨b8, rfl⟩ hs _
 refine s_pu (p_move rfl) rfl ?_
 refine s_pu (p_extract rfl rfl) rfl ?_
 refine s_pu (p_extract rfl rfl) rfl ?_
 refine s_pu (p_assign rfl) rfl ?_
 refine s_pu (p_assign rfl) rfl ?_
 refine WL_th ?_
 refine W_seq ?_
 refine W_sr ?_
 refine s_pu (p_move rfl) rfl ?_
 refine s_pu (p_neNN rfl) rfl ?_
 refine WL_th ?_
 refine W_false rfl ?_
 refine W_skip_th ?_
 refine W_forget (Ext.cd 4 rfl (Ext.nil _)) ?_
 refine W_sr ?_
 refine s_pu (p_move rfl) rfl ?_
 refine s_pu (p_assign rfl) rfl ?_
 refine s_pu (p_assign rfl) rfl ?_
 refine WL_th ?_
 refine W_ret ?_
 refine ret_tmp2 (fn := Tryz.f65) rfl rfl rfl ?_
 exact ⟨⟨_, _, rfl⟩, hs.keep0⟩
theorem c_signed (s : ByteArray) (hsz : 0 < s.size) (wI : World) : Quiet Tryz.prog 82 [.string s] wI fun v => ∃ u, v = .string u := by
 have hs := St.startNone wI
 refine calls_W (args := [_]) Tryz.func82 rfl Tryz.ntmps82 rfl ?_
 refine W_sr ?_
 refine s_pu (p_assign rfl) rfl ?_
 refine WL_th ?_
 refine W_seq ?_
 refine W_sr ?_
 refine s_pu (p_move rfl) rfl ?_
 refine s_pu (p_indexS (by kernel_rfl) rfl rfl ?_ ?_) rfl ?_
 ·
  decide
 ·
  exact hsz
 refine s_pu (p_eqI rfl rfl) rfl ?_
 refine s_pu (p_move rfl) rfl ?_
 refine WL_cutb 3 9 [0] (fun b => True) ?_ ?_
 ·
  refine s_bool 6 rfl (fun hb6 => ?_) (fun hb6 => ?_)
  ·
   refine g_skip rfl rfl rfl rfl rfl ?_
   refine g_skip rfl rfl rfl rfl rfl ?_
   refine s_pu (p_pickT rfl rfl) rfl ?_
   refine WL_th ⟨rfl, _, ?_, Ext.cons rfl (ext_kc rfl ext_kn)⟩
   trivial
  ·
   refine g_take rfl rfl rfl ?_
   refine s_pu (p_move rfl) rfl ?_
   refine g_take rfl rfl rfl ?_
   refine s_pu (p_eqS rfl rfl) rfl ?_
   refine s_pu (p_pickF rfl rfl) rfl ?_
   refine WL_th ⟨rfl, _, ?_, Ext.cons rfl (ext_kc rfl ext_kn)⟩
   trivial
 ·
  intro b9 hb9
  refine WL_forget (Ext.cd 0 rfl (Ext.cd 9 rfl (Ext.nil _))) ?_
  show WL _ _ _ [] _ _ _
  refine WL_th ?_
  refine W_if rfl (fun ht9 => ?_) (fun ht9 => ?_)
  ·
   refine W_sr ?_
   refine s_pu (p_move rfl) rfl ?_
   refine s_pu (p_subLo (by kernel_rfl) rfl rfl ?_ ?_) rfl ?_
   ·
    decide
   ·
    (omega)
   refine s_pu (p_assign rfl) rfl ?_
   refine WL_th ?_
   refine W_ret ?_
   refine th_ret ?_
   refine ret_tmp (fn := Tryz.f82) rfl rfl ?_
   exact ⟨⟨_, rfl⟩, hs.keep0⟩
  ·
   refine W_skip_th ?_
   refine W_sr ?_
   refine s_pu (p_move rfl) rfl ?_
   refine s_pu (p_assign rfl) rfl ?_
   refine WL_th ?_
   refine W_ret ?_
   refine ret_tmp (fn := Tryz.f82) rfl rfl ?_
   exact ⟨⟨_, rfl⟩, hs.keep0⟩
end Go.Proofs.YtmalghopogngoaaGreatDoor
