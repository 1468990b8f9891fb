/- A part of the proof that the parent of a node below the root is the node right above it (laws.FnParentTree), for all inputs of bulk at most 1048576 and the listed variables as the text lays them: part 9 of 16. -/
import Derived.Test.YtmalghopogngoaaGreatDoorK8
set_option linter.unusedVariables false
set_option linter.unusedSimpArgs false
set_option maxRecDepth 4000
namespace Go.Proofs.YtmalghopogngoaaGreatDoor
open Go Go.RowKit MW
/-- The digits as numbers. -/
def yv (x : Nat → Int) : Nat → Nat := fun i => (x i - 48).toNat
def cv (s : ByteArray) : Nat → Nat := fun i => bt s i - 48
theorem yv_lt {x : Nat → Int} {n : Nat} (h : Digs x n) : ∀ i, i < n → yv x i < 10 := fun i hi => by
 have := h i hi
 unfold yv
 omega
theorem yv_eq {x : Nat → Int} {n i : Nat} (h : Digs x n) (hi : i < n) : x i = 48 + (yv x i : Nat) := by
 have := h i hi
 unfold yv
 omega
theorem c_prefixLess (db : Nat) (x : Nat → Int) (nd dp : Int) (ng tr : Bool) (n : Nat) (s : ByteArray) (hn : n ≤ 800) (hsz : s.size ≤ 1000) (hd : Digs x n) (hc : ∀ i, i < s.size → dig (bt s i)) (hl : 0 < s.size → 49 ≤ bt s (s.size - 1)) (wI : World) (hf : wI.heap[db]? = some (.cells (mkA 804 (dC x nd dp ng tr)) 268 (0, 0))) : Quiet Tryz.prog 158 [.slice (some ⟨db, 0, none⟩) n 800, .string s] wI fun v => ∃ b, v = .bool b ∧ (b = true → dv (yv x) n * 10 ^ s.size < dv (cv s) s.size * 10 ^ n) ∧ (b = false → dv (cv s) s.size * 10 ^ n ≤ dv (yv x) n * 10 ^ s.size) := by
 have hs := St.startNone wI
 refine calls_W (args := [_, _]) Tryz.func158 rfl Tryz.ntmps158 rfl ?_
 refine W_sr ?_
 refine s_pu (p_assign rfl) rfl ?_
 refine WL_th ?_
 refine W_seq ?_
 refine W_sr ?_
 refine s_pu (p_assign rfl) rfl ?_
 refine WL_th ?_
 refine W_block ?_
 refine W_loop (α := Nat) (fun i => (upd (upd (upd emp 5 (.int .i64 i)) 1 (.string s)) 0 (.slice (some ⟨db, 0, none⟩) n 800))) (fun i w => i ≤ s.size ∧ i ≤ n ∧ (∀ j, j < i → x j = bt s j) ∧ St wI (fun _ => False) w []) (fun i => s.size - i) 0 (Ext.cons rfl (Ext.cons rfl (Ext.cons rfl (Ext.nil _)))) ⟨by omega, by omega, fun j h => by omega, hs⟩ (fun i w hx => ?_)
 obtain ⟨hi1, hi2, hall, hs⟩ := hx
 have hag : ∀ j, j < i → yv x j = cv s j := fun j hj => by have h1 := hall j hj; unfold yv cv; omega
 refine W_seq ?_
 refine W_sr ?_
 refine s_pu (p_move rfl) rfl ?_
 refine s_pu (p_move rfl) rfl ?_
 refine s_pu (p_lenS (by kernel_rfl) rfl) rfl ?_
 refine s_pu (p_ltI rfl rfl) rfl ?_
 refine WL_th ?_
 refine W_if rfl (fun h9 => ?_) (fun h9 => ?_)
 ·
  have hlt : i < s.size := by have := of_decide_eq_true h9; omega
  refine W_skip_th ?_
  refine W_seq ?_
  refine W_block ?_
  refine W_seq ?_
  refine W_sr ?_
  refine s_pu (p_move rfl) rfl ?_
  refine s_pu (p_move rfl) rfl ?_
  refine s_pu (p_lenL rfl) rfl ?_
  refine s_pu (p_geI rfl rfl) rfl ?_
  refine WL_th ?_
  refine W_if rfl (fun h15 => ?_) (fun h15 => ?_)
  ·
   have hie : i = n := by have := of_decide_eq_true h15; omega
   subst hie
   refine W_sr ?_
   refine s_pu (p_assign rfl) rfl ?_
   refine WL_th ?_
   refine W_forget (Ext.cd 4 rfl (Ext.nil _)) ?_
   refine W_ret ?_
   refine th_ret ?_
   refine bl_ret ?_
   refine th_ret ?_
   refine th_ret ?_
   refine bl_ret ?_
   refine th_ret ?_
   refine ret_tmp (fn := Tryz.f158) rfl rfl ?_
   exact ⟨⟨true, rfl, fun _ => pl_short hlt hag (by unfold cv; have h1 := hl (by omega); omega), fun h => (by cases h)⟩, hs.keep0⟩
  ·
   have hltn : i < n := by have := of_decide_eq_false h15; omega
   refine W_skip_th ?_
   refine W_seq ?_
   refine h_start (S := fun w => w.heap[db]? = some (.cells (mkA 804 (dC x nd dp ng tr)) 268 (0, 0))) (ls := #[false, false, false, false, false, false, false, false]) (n := 8) (by kernel_rfl) (by kernel_rfl) ?_
   have hs := hs.drew
   refine h_pu 0 rfl (ls' := #[true, false, false, false, false, false, false, false]) (by kernel_rfl) (fun _ _ _ h => h) rfl (hs.old hf) (p_move rfl) ?_
   refine h_pu 1 rfl (ls' := #[true, true, false, false, false, false, false, false]) (by kernel_rfl) (fun _ _ _ h => h) rfl (hs.old hf) (p_move rfl) ?_
   refine h_pu 2 rfl (ls' := #[true, true, true, false, false, false, false, false]) (by kernel_rfl) (fun _ _ _ h => h) rfl (hs.old hf) (p_elem rfl rfl ?_ ?_) ?_
   ·
    (omega)
   ·
    (omega)
   refine h_take 3 rfl (ls' := #[true, true, true, true, false, false, false, false]) (by kernel_rfl) (fun _ _ _ h => h) rfl (hs.old hf) (fun w hw => m_load1 (v := .int .u8 (x i)) rfl (by have e := pt_cell hw (0 + ((i : Int).toNat) * 1) (by rw [Int.toNat_natCast]; omega); rw [e, dC_x (by rw [Int.toNat_natCast]; omega), show 0 + ((i : Int).toNat) * 1 = i by rw [Int.toNat_natCast]; omega])) ?_
   refine h_pu 4 rfl (ls' := #[true, true, true, true, true, false, false, false]) (by kernel_rfl) (fun _ _ _ h => h) rfl (hs.old hf) (p_move rfl) ?_
   refine h_pu 5 rfl (ls' := #[true, true, true, true, true, true, false, false]) (by kernel_rfl) (fun _ _ _ h => h) rfl (hs.old hf) (p_move rfl) ?_
   refine h_pu 6 rfl (ls' := #[true, true, true, true, true, true, true, false]) (by kernel_rfl) (fun _ _ _ h => h) rfl (hs.old hf) (p_indexB (by kernel_rfl) rfl rfl ?_ ?_) ?_
   ·
    (omega)
   ·
    (rw [Int.toNat_natCast]; exact hlt)
   refine h_pu 7 rfl (ls' := #[true, true, true, true, true, true, true, true]) (by kernel_rfl) (fun _ _ _ h => h) rfl (hs.old hf) (p_neI rfl rfl) ?_
   refine h_done (by kernel_rfl) ?_
   show W _ _ _ _ _ _
   refine W_forget (Ext.cd 0 rfl (Ext.cd 1 rfl (Ext.cd 5 rfl (Ext.cd 23 rfl (Ext.nil _))))) ?_
   refine W_if rfl (fun h23 => ?_) (fun h23 => ?_)
   ·
    have hne : x i ≠ bt s i := fun h => by have h1 : (x i != ((bt s ((i : Int).toNat) : Nat) : Int)) = true := h23; rw [Int.toNat_natCast] at h1; simp [h] at h1
    have hdi := hd i hltn
    have hci := hc i hlt
    refine W_seq ?_
    refine h_start (S := fun w => w.heap[db]? = some (.cells (mkA 804 (dC x nd dp ng tr)) 268 (0, 0))) (ls := #[false, false, false, false, false, false, false, false, false]) (n := 9) (by kernel_rfl) (by kernel_rfl) ?_
    have hs := hs.drew
    refine h_pu 0 rfl (ls' := #[true, false, false, false, false, false, false, false, false]) (by kernel_rfl) (fun _ _ _ h => h) rfl (hs.old hf) (p_move rfl) ?_
    refine h_pu 1 rfl (ls' := #[true, true, false, false, false, false, false, false, false]) (by kernel_rfl) (fun _ _ _ h => h) rfl (hs.old hf) (p_move rfl) ?_
    refine h_pu 2 rfl (ls' := #[true, true, true, false, false, false, false, false, false]) (by kernel_rfl) (fun _ _ _ h => h) rfl (hs.old hf) (p_elem rfl rfl ?_ ?_) ?_
    ·
     (omega)
    ·
     (omega)
    refine h_take 3 rfl (ls' := #[true, true, true, true, false, false, false, false, false]) (by kernel_rfl) (fun _ _ _ h => h) rfl (hs.old hf) (fun w hw => m_load1 (v := .int .u8 (x i)) rfl (by have e := pt_cell hw (0 + ((i : Int).toNat) * 1) (by rw [Int.toNat_natCast]; omega); rw [e, dC_x (by rw [Int.toNat_natCast]; omega), show 0 + ((i : Int).toNat) * 1 = i by rw [Int.toNat_natCast]; omega])) ?_
    refine h_pu 4 rfl (ls' := #[true, true, true, true, true, false, false, false, false]) (by kernel_rfl) (fun _ _ _ h => h) rfl (hs.old hf) (p_move rfl) ?_
    refine h_pu 5 rfl (ls' := #[true, true, true, true, true, true, false, false, false]) (by kernel_rfl) (fun _ _ _ h => h) rfl (hs.old hf) (p_move rfl) ?_
    refine h_pu 6 rfl (ls' := #[true, true, true, true, true, true, true, false, false]) (by kernel_rfl) (fun _ _ _ h => h) rfl (hs.old hf) (p_indexB (by kernel_rfl) rfl rfl ?_ ?_) ?_
    ·
     (omega)
    ·
     (rw [Int.toNat_natCast]; exact hlt)
    refine h_pu 7 rfl (ls' := #[true, true, true, true, true, true, true, true, false]) (by kernel_rfl) (fun _ _ _ h => h) rfl (hs.old hf) (p_ltI rfl rfl) ?_
    refine h_pu 8 rfl (ls' := #[true, true, true, true, true, true, true, true, true]) (by kernel_rfl) (fun _ _ _ h => h) rfl (hs.old hf) (p_assign rfl) ?_
    refine h_done (by kernel_rfl) ?_
    show W _ _ _ _ _ _
    refine W_forget (Ext.cd 4 rfl (Ext.nil _)) ?_
    refine W_ret ?_
    refine bl_ret ?_
    refine th_ret ?_
    refine th_ret ?_
    refine bl_ret ?_
    refine th_ret ?_
    refine ret_tmp (fn := Tryz.f158) rfl rfl ?_
    refine ⟨⟨_, rfl, fun h => ?_, fun h => ?_⟩, hs.keep0⟩
    ·
     have h1 : x i < ((bt s ((i : Int).toNat) : Nat) : Int) := of_decide_eq_true h
     rw [Int.toNat_natCast] at h1
     exact pl_lt hltn hlt hag (yv_lt hd) (by unfold yv cv; unfold dig at hci; omega)
    ·
     have h1 : ¬ x i < ((bt s ((i : Int).toNat) : Nat) : Int) := of_decide_eq_false h
     rw [Int.toNat_natCast] at h1
     exact Nat.le_of_lt (pl_lt hlt hltn (fun j hj => (hag j hj).symm) (fun j hj => by have := hc j hj; unfold cv; unfold dig at this; omega) (by unfold yv cv; unfold dig at hci; omega))
   ·
    have hsame : x i = bt s i := by have h1 : (x i != ((bt s ((i : Int).toNat) : Nat) : Int)) = false := h23; rw [Int.toNat_natCast] at h1; simpa using h1
    refine W_skip ?_
    show W _ _ _ _ _ _
    refine W_reg ?_
    refine s_pu (p_move rfl) rfl ?_
    refine s_pu (p_addI rfl rfl ?_) rfl ?_
    ·
     (first | assumption | omega)
    refine s_pu (p_assign rfl) rfl ?_
    refine WL_th ?_
    refine ⟨i + 1, (Ext.cons rfl (Ext.cons rfl (Ext.cons (by show some (Value.int .i64 ((i : Int) + 1)) = _; simp) (Ext.nil _)))), ⟨by omega, by omega, below_succ hall hsame, hs⟩, by omega⟩
 ·
  have hie : i = s.size := by have := of_decide_eq_false h9; omega
  subst hie
  refine W_exit ?_
  show W _ _ _ _ _ _
  refine W_sr ?_
  refine s_pu (p_assign rfl) rfl ?_
  refine WL_th ?_
  refine W_ret ?_
  refine ret_tmp (fn := Tryz.f158) rfl rfl ?_
  exact ⟨⟨false, rfl, fun h => (by cases h), fun _ => pl_pref hi2 hag⟩, hs.keep0⟩
theorem updN_ne {g : Nat → Int} {o i : Nat} {v : Int} (h : i ≠ o) : updN g o v i = g i := by
 unfold updN
 cases hb : Nat.beq i o with
 | true => exact absurd (Nat.eq_of_beq_eq_true hb) h
 | false => rfl
theorem updN_eq {g : Nat → Int} {o : Nat} {v : Int} : updN g o v o = v := by
 unfold updN
 rw [Nat.beq_refl]
 rfl
theorem digs_upd {x : Nat → Int} {w q : Nat} (h : Digs x w) (hq : q ≤ 9) : Digs (updN x w (48 + (q : Int))) (w + 1) := fun i hi => by
 by_cases he : i = w
 ·
  subst he
  rw [updN_eq]
  omega
 ·
  rw [updN_ne he]
  exact h i (by omega)
theorem head_upd {x : Nat → Int} {w m n k : Nat} (h0 : w = 0 → m = n) (h1 : 0 < w → x 0 = 48 + ((n / 2 ^ k : Nat) : Int)) : updN x w (48 + ((m / 2 ^ k : Nat) : Int)) 0 = 48 + ((n / 2 ^ k : Nat) : Int) := by
 by_cases he : w = 0
 ·
  rw [h0 he]
  subst he
  rw [updN_eq]
 ·
  rw [updN_ne (by omega)]
  exact h1 (by omega)
theorem next_div {k j m : Nat} (hj : j ≤ k) (hd : 2 ^ j ∣ m) : 2 ^ min (j + 1) k ∣ m % 2 ^ k * 10 := by
 by_cases h : j < k
 ·
  rw [show min (j + 1) k = j + 1 by omega]
  exact left_over hd h
 ·
  obtain rfl : j = k := by omega
  rw [left_none hd]
  exact Nat.dvd_zero _
theorem next_lt {k j m : Nat} (hj : j ≤ k) (hd : 2 ^ j ∣ m) (hm : 0 < m) : (if m % 2 ^ k * 10 = 0 then 0 else k + 1 - min (j + 1) k) < (if m = 0 then 0 else k + 1 - j) := by
 rw [if_neg (by omega : ¬ m = 0)]
 by_cases h : j < k
 ·
  split <;> omega
 ·
  obtain rfl : j = k := by omega
  rw [left_none hd]
  simp
/-- What a shift to the right leaves: the point and the first digit fall. -/
def FallR (db k : Nat) (x : Nat → Int) (dp : Int) (ng : Bool) (G : List Assn) : Prop :=
 ∃ (x' : Nat → Int) (nd' : Nat) (dp' : Int) (tr' : Bool), 1 ≤ nd' ∧ nd' ≤ 800 ∧ Digs x' nd' ∧ x' 0 ≠ 48 ∧ (k : Int) + 14 * dp' + x' 0 ≤ 14 * dp + x 0 ∧ dp - 9 ≤ dp' ∧ dp' ≤ dp ∧ G = [pt db 268 804 (dC x' (nd' : Nat) dp' ng tr')]
theorem c_rightShift (db k : Nat) (hk1 : 1 ≤ k) (hk2 : k ≤ 27) (x : Nat → Int) (nd : Nat) (dp : Int) (ng tr : Bool) (h1 : 1 ≤ nd) (h2 : nd ≤ 800) (hd : Digs x nd) (h0 : x 0 ≠ 48) (hp1 : -10000 ≤ dp) (hp2 : dp ≤ 10000) :
  MW.Spec Tryz.prog 156 [.pointer (some ⟨db, 0, none⟩), .int .u64 k].toArray [pt db 268 804 (dC x (nd : Nat) dp ng tr)] fun v G => FallR db k x dp ng G := by
 intro wI S hsat
 have hs := St.start hsat
 have hy0 : 1 ≤ yv x 0 := by have := hd 0 (by omega); unfold yv; omega
 have hpc : (2 : Int) ^ k - 1 = ((2 ^ k - 1 : Nat) : Int) := by
  have := p2 k
  rw [Int.natCast_sub (by omega)]
  simp
 refine calls_W (args := [_, _]) Tryz.func156 rfl Tryz.ntmps156 rfl ?_
 refine W_sr ?_
 refine s_pu (p_assign rfl) rfl ?_
 refine WL_th ?_
 refine W_sr ?_
 refine s_pu (p_assign rfl) rfl ?_
 refine WL_th ?_
 refine W_sr ?_
 refine s_pu (p_assign rfl) rfl ?_
 refine WL_th ?_
 refine W_join (fun e' w' => ∃ r n : Nat, Ext e' (upd (upd (upd (upd (upd emp 6 (.int .u64 n)) 5 (.int .i64 0)) 4 (.int .i64 r)) 1 (.int .u64 k)) 0 (.pointer (some ⟨db, 0, none⟩))) ∧ St wI S w' [pt db 268 804 (dC x (nd : Nat) dp ng tr)] ∧ Taken k (yv x 0) r n ∧ (r ≤ nd ∨ nd ≤ r)) ?_ ?_
 ·
  refine W_block ?_
  have hp27 : 2 ^ k ≤ 2 ^ 27 := Nat.pow_le_pow_right (by decide) hk2
  have e27 : (2 : Nat) ^ 27 = 134217728 := by decide
  have hp0 := p2 k
  refine W_loop (α := Nat) (fun r => (upd (upd (upd (upd (upd emp 6 (.int .u64 (dv (yv x) r : Nat))) 5 (.int .i64 0)) 4 (.int .i64 r)) 1 (.int .u64 k)) 0 (.pointer (some ⟨db, 0, none⟩)))) (fun r w => r ≤ nd ∧ dv (yv x) r < 10 * 2 ^ k ∧ St wI S w [pt db 268 804 (dC x (nd : Nat) dp ng tr)]) (fun r => nd - r) 0 (Ext.cons rfl (Ext.cons rfl (Ext.cons rfl (Ext.cons rfl (Ext.cons rfl (Ext.nil _)))))) ⟨by omega, by have := p2 k; show 0 < _; omega, hs⟩ (fun r w hx => ?_)
  obtain ⟨hr, hn, hs⟩ := hx
  have hrlt := dv_lt (fun i hi => yv_lt hd i (Nat.lt_of_lt_of_le hi hr))
  refine W_seq ?_
  refine W_sr ?_
  refine s_pu (p_move rfl) rfl ?_
  refine s_pu (p_move rfl) rfl ?_
  refine s_pu (p_shrK (z := ((dv (yv x) r / 2 ^ k : Nat) : Int)) rfl rfl (by omega) (shrN (dv (yv x) r) k (by omega))) rfl ?_
  refine s_pu (p_eqI rfl rfl) rfl ?_
  refine WL_th ?_
  refine W_if rfl (fun h15 => ?_) (fun h15 => ?_)
  ·
   have hlt2 : dv (yv x) r < 2 ^ k := by have h1 := eq_of_beq h15; have h2 : dv (yv x) r / 2 ^ k = 0 := (by omega); have h3 := (Nat.div_eq_zero_iff).1 h2; omega
   refine W_skip_th ?_
   refine W_seq ?_
   refine W_block ?_
   refine W_seq ?_
   refine W_sr ?_
   refine s_pu (p_move rfl) rfl ?_
   refine s_pu (p_move rfl) rfl ?_
   refine s_pu (p_nilCheck rfl) rfl ?_
   refine s_pu (p_field rfl) rfl ?_
   refine k_dnd (hs.cell .head) rfl rfl ?_
   refine s_pu (p_geI rfl rfl) rfl ?_
   refine WL_th ?_
   refine W_if rfl (fun h23 => ?_) (fun h23 => ?_)
   ·
    obtain rfl : r = nd := by have := of_decide_eq_true h23; omega
    refine W_seq ?_
    refine W_sr ?_
    refine s_pu (p_move rfl) rfl ?_
    refine s_pu (p_eqI rfl rfl) rfl ?_
    refine WL_th ?_
    refine W_forget (Ext.cd 0 rfl (Ext.cd 1 rfl (Ext.cd 4 rfl (Ext.cd 5 rfl (Ext.cd 6 rfl (Ext.cd 25 rfl (Ext.nil _))))))) ?_
    refine W_if rfl (fun h25 => ?_) (fun h25 => ?_)
    ·
     exfalso
     have h1 := eq_of_beq h25
     have h2 := dv_ge hy0 (r - 1)
     rw [show r - 1 + 1 = r by omega] at h2
     have h3 := p10 (r - 1)
     omega
    ·
     have hge1 : 10 ^ (r - 1) ≤ dv (yv x) r := by have h2 := dv_ge hy0 (r - 1); rwa [show r - 1 + 1 = r by omega] at h2
     have hnpos : 0 < dv (yv x) r := by have := p10 (r - 1); omega
     refine W_skip_th ?_
     refine W_seq ?_
     refine W_block ?_
     refine W_loop (α := Nat × Nat) (fun q => (upd (upd (upd (upd (upd emp 6 (.int .u64 q.2)) 5 (.int .i64 0)) 4 (.int .i64 q.1)) 1 (.int .u64 k)) 0 (.pointer (some ⟨db, 0, none⟩)))) (fun q w => r ≤ q.1 ∧ q.2 < 10 * 2 ^ k ∧ 0 < q.2 ∧ 10 ^ (q.1 - 1) ≤ q.2 ∧ q.2 < 10 ^ q.1 ∧ (q.1 = r → q.2 = dv (yv x) r) ∧ q.1 ≤ r + q.2 ∧ St wI S w [pt db 268 804 (dC x (r : Nat) dp ng tr)]) (fun q => 10 * 2 ^ k - q.2) (r, dv (yv x) r) (Ext.cons rfl (Ext.cons rfl (Ext.cons rfl (Ext.cons rfl (Ext.cons rfl (Ext.nil _)))))) ⟨Nat.le_refl _, hn, hnpos, hge1, hrlt, fun _ => rfl, by omega, hs⟩ (fun q w hx => ?_)
     obtain ⟨hq1, hq2, hq3, hq4, hq5, hq6, hq7, hs⟩ := hx
     obtain ⟨r2, n2⟩ := q
     simp only at hq1 hq2 hq3 hq4 hq5 hq6 hq7 hs
     refine W_forget (e' := (upd (upd (upd (upd (upd emp 6 (.int .u64 n2)) 5 (.int .i64 0)) 4 (.int .i64 r2)) 1 (.int .u64 k)) 0 (.pointer (some ⟨db, 0, none⟩)))) (Ext.cons rfl (Ext.cons rfl (Ext.cons rfl (Ext.cons rfl (Ext.cons rfl (Ext.nil _)))))) ?_
     refine W_seq ?_
     refine W_sr ?_
     refine s_pu (p_move rfl) rfl ?_
     refine s_pu (p_move rfl) rfl ?_
     refine s_pu (p_shrK (z := ((n2 / 2 ^ k : Nat) : Int)) rfl rfl (by omega) (shrN (n2) k (by omega))) rfl ?_
     refine s_pu (p_eqI rfl rfl) rfl ?_
     refine WL_th ?_
     refine W_if rfl (fun h32 => ?_) (fun h32 => ?_)
     ·
      have hlt3 : n2 < 2 ^ k := by have h1 := eq_of_beq h32; have h2 : n2 / 2 ^ k = 0 := (by omega); have h3 := (Nat.div_eq_zero_iff).1 h2; omega
      refine W_skip_th ?_
      refine W_block ?_
      refine W_sr ?_
      refine s_pu (p_move rfl) rfl ?_
      refine s_pu (p_mulK (z := ((n2 * 10 : Nat) : Int)) rfl rfl (by rw [wrU64 (by omega) (by omega)]; simp)) rfl ?_
      refine s_pu (p_assign rfl) rfl ?_
      refine WL_th ?_
      refine W_reg ?_
      refine s_pu (p_move rfl) rfl ?_
      refine s_pu (p_addI rfl rfl ?_) rfl ?_
      ·
       omega
      refine s_pu (p_assign rfl) rfl ?_
      refine WL_nil ?_
      show ∃ _, _
      refine ⟨(r2 + 1, n2 * 10), (Ext.cons rfl (Ext.cons rfl (Ext.cons (by show some (Value.int .i64 ((r2 : Int) + 1)) = _; simp) (Ext.cons rfl (Ext.cons rfl (Ext.nil _)))))), ⟨by omega, by omega, by omega, by rw [show r2 + 1 - 1 = (r2 - 1) + 1 by omega, Nat.pow_succ]; omega, by rw [Nat.pow_succ]; omega, fun h => by omega, by omega, hs⟩, by simp only; omega⟩
     ·
      have hge3 : 2 ^ k ≤ n2 := Nat.le_of_not_lt fun h => by rw [Nat.div_eq_of_lt h] at h32; cases h32
      refine W_exit ?_
      show W _ _ _ _ _ _
      refine W_exit ?_
      show ∃ _, _
      exact ⟨r2, n2, (Ext.cons rfl (Ext.cons rfl (Ext.cons rfl (Ext.cons rfl (Ext.cons rfl (Ext.nil _)))))), hs, ⟨by omega, hge3, hq2, hq4, hq5, fun h => by have h1 : r2 = r := (by omega); have h2 := hq6 h1; have h3 : r = 1 := (by omega); rw [h2, h3]; simp [dv]⟩, .inr (by omega)⟩
   ·
    have hrn : r < nd := by have := of_decide_eq_false h23; omega
    have hyr := yv_eq hd hrn
    have hyr9 := yv_lt hd r hrn
    refine W_skip_th ?_
    refine W_sr ?_
    refine s_pu (p_move rfl) rfl ?_
    refine s_pu (p_move rfl) rfl ?_
    refine s_pu (p_nilCheck rfl) rfl ?_
    refine s_pu (p_field rfl) rfl ?_
    refine s_pu (p_elemA rfl rfl ?_ ?_) rfl ?_
    ·
     (first | assumption | omega)
    ·
     (first | assumption | omega)
    refine k_dx (hs.cell .head) rfl (by rw [Int.toNat_natCast]; omega) rfl ?_
    rw [show x ((r : Int).toNat) = x r by rw [Int.toNat_natCast]]
    refine s_pu (p_convK (z := x r) rfl (wrU64 (by omega) (by omega))) rfl ?_
    refine s_pu (p_assign rfl) rfl ?_
    refine WL_th ?_
    refine W_forget (Ext.cd 0 rfl (Ext.cd 1 rfl (Ext.cd 4 rfl (Ext.cd 5 rfl (Ext.cd 6 rfl (Ext.cd 7 rfl (Ext.nil _))))))) ?_
    refine W_reg ?_
    refine s_pu (p_move rfl) rfl ?_
    refine s_pu (p_mulK (z := ((dv (yv x) r * 10 : Nat) : Int)) rfl rfl (by rw [wrU64 (by omega) (by omega)]; simp)) rfl ?_
    refine s_pu (p_move rfl) rfl ?_
    refine s_pu (p_addK (z := ((dv (yv x) r * 10 : Nat) : Int) + x r) rfl rfl (wrU64 (by omega) (by omega))) rfl ?_
    refine s_pu (p_subK (z := ((dv (yv x) (r + 1) : Nat) : Int)) rfl rfl (by rw [wrU64 (by omega) (by omega)]; simp only [dv]; omega)) rfl ?_
    have hn1 : dv (yv x) (r + 1) < 10 * 2 ^ k := by simp only [dv]; omega
    refine s_pu (p_assign rfl) rfl ?_
    refine WL_nil ?_
    show W _ _ _ _ _ _
    refine W_reg ?_
    refine s_pu (p_move rfl) rfl ?_
    refine s_pu (p_addI rfl rfl ?_) rfl ?_
    ·
     omega
    refine s_pu (p_assign rfl) rfl ?_
    refine WL_th ?_
    refine ⟨r + 1, (Ext.cons rfl (Ext.cons rfl (Ext.cons (by show some (Value.int .i64 ((r : Int) + 1)) = _; simp) (Ext.cons rfl (Ext.cons rfl (Ext.nil _)))))), ⟨by omega, hn1, hs⟩, by omega⟩
  ·
   have hge2 : 2 ^ k ≤ dv (yv x) r := Nat.le_of_not_lt fun h => by rw [Nat.div_eq_of_lt h] at h15; cases h15
   have hr1 : 1 ≤ r := Nat.pos_of_ne_zero fun h => by subst h; simp only [dv] at hge2; omega
   refine W_exit ?_
   show ∃ _, _
   exact ⟨r, _, (Ext.cons rfl (Ext.cons rfl (Ext.cons rfl (Ext.cons rfl (Ext.cons rfl (Ext.nil _)))))), hs, ⟨hr1, hge2, hn, by have h2 := dv_ge hy0 (r - 1); rwa [show r - 1 + 1 = r by omega] at h2, hrlt, fun h => by rw [h]; simp [dv]⟩, .inl hr⟩
 ·
  rintro e1 w1 ⟨r, n, hx, hs, hT, _⟩
  refine W_forget hx ?_
  clear hx
  have hp27 : 2 ^ k ≤ 2 ^ 27 := Nat.pow_le_pow_right (by decide) hk2
  have e27 : (2 : Nat) ^ 27 = 134217728 := by decide
  have hp0 := p2 k
  have hfew := hT.few hk2
  obtain ⟨hq1, hq9⟩ := hT.dig
  have hr1 := hT.r1
  have hnhi := hT.hi
  have hnlo := hT.lo
  refine W_sr ?_
  refine s_pu (p_move rfl) rfl ?_
  refine s_pu (p_nilCheck rfl) rfl ?_
  refine s_pu (p_field rfl) rfl ?_
  refine k_ddp (hs.cell .head) rfl rfl ?_
  refine s_pu (p_move rfl) rfl ?_
  refine s_pu (p_subI rfl rfl ?_) rfl ?_
  ·
   omega
  refine s_pu (p_subI rfl rfl ?_) rfl ?_
  ·
   omega
  refine s_pu (p_nilCheck rfl) rfl ?_
  refine s_pu (p_field rfl) rfl ?_
  refine k_sdp hs rfl rfl ?_
  intro _ hs
  refine WL_th ?_
  refine W_sr ?_
  refine s_pu (p_move rfl) rfl ?_
  refine s_pu (p_shlK (z := ((1 * 2 ^ k : Nat) : Int)) rfl rfl (by omega) (shlN 1 k (by omega) (by omega))) rfl ?_
  refine s_pu (p_subK (z := (2 : Int) ^ k - 1) rfl rfl (by rw [show ((1 * 2 ^ k : Nat) : Int) - 1 = (2 : Int) ^ k - 1 by simp, hpc, wrU64 (by omega) (by omega)])) rfl ?_
  refine s_pu (p_assign rfl) rfl ?_
  refine WL_th ?_
  refine W_forget (Ext.cd 0 rfl (Ext.cd 1 rfl (Ext.cd 4 rfl (Ext.cd 5 rfl (Ext.cd 6 rfl (Ext.cd 8 rfl (Ext.nil _))))))) ?_
  refine W_seq ?_
  refine W_block ?_
  refine W_loop (α := (Nat → Int) × Nat × Nat) (fun q => (upd (upd (upd (upd (upd (upd emp 8 (.int .u64 (2 ^ k - 1))) 6 (.int .u64 q.2.2)) 5 (.int .i64 q.2.1)) 4 (.int .i64 ((r + q.2.1 : Nat)))) 1 (.int .u64 k)) 0 (.pointer (some ⟨db, 0, none⟩)))) (fun q w => q.2.2 < 10 * 2 ^ k ∧ Digs q.1 q.2.1 ∧ (∀ i, q.2.1 ≤ i → q.1 i = x i) ∧ (q.2.1 = 0 → q.2.2 = n) ∧ (0 < q.2.1 → q.1 0 = 48 + ((n / 2 ^ k : Nat) : Int) ∧ r + q.2.1 ≤ nd) ∧ St wI S w [pt db 268 804 (dC q.1 (nd : Nat) (dp - ((r : Int) - 1)) ng tr)]) (fun q => nd - q.2.1) (x, 0, n) (Ext.cons rfl (Ext.cons rfl (Ext.cons rfl (Ext.cons rfl (Ext.cons rfl (Ext.cons rfl (Ext.nil _))))))) ⟨hnhi, fun i h => by (simp only at h; omega), fun i _ => rfl, fun _ => rfl, fun h => by (simp only at h; omega), hs⟩ (fun q w hx => ?_)
  obtain ⟨hm, hdg, hun, hw0, hw1, hs⟩ := hx
  obtain ⟨x1, w1_, m⟩ := q
  simp only at hm hdg hun hw0 hw1 hs
  refine W_forget (e' := (upd (upd (upd (upd (upd (upd emp 8 (.int .u64 (2 ^ k - 1))) 6 (.int .u64 m)) 5 (.int .i64 w1_)) 4 (.int .i64 ((r + w1_ : Nat)))) 1 (.int .u64 k)) 0 (.pointer (some ⟨db, 0, none⟩)))) (Ext.cons rfl (Ext.cons rfl (Ext.cons rfl (Ext.cons rfl (Ext.cons rfl (Ext.cons rfl (Ext.nil _))))))) ?_
  have hmd9 : m / 2 ^ k ≤ 9 := by have := (Nat.div_lt_iff_lt_mul hp0).2 hm; omega
  have hmd0 : (0 : Int) ≤ ((m / 2 ^ k : Nat) : Int) := Int.natCast_nonneg _
  have hmd9i : ((m / 2 ^ k : Nat) : Int) ≤ 9 := by exact_mod_cast hmd9
  refine W_seq ?_
  refine W_sr ?_
  refine s_pu (p_move rfl) rfl ?_
  refine s_pu (p_move rfl) rfl ?_
  refine s_pu (p_nilCheck rfl) rfl ?_
  refine s_pu (p_field rfl) rfl ?_
  refine k_dnd (hs.cell .head) rfl rfl ?_
  refine s_pu (p_ltI rfl rfl) rfl ?_
  refine WL_th ?_
  refine W_if rfl (fun h66 => ?_) (fun h66 => ?_)
  ·
   have hrw : r + w1_ < nd := by have := of_decide_eq_true h66; omega
   have hxr : x1 (r + w1_) = x (r + w1_) := hun _ (by omega)
   have hyr := yv_eq hd hrw
   have hyr9 := yv_lt hd _ hrw
   refine W_skip_th ?_
   refine W_seq ?_
   refine W_block ?_
   refine W_sr ?_
   refine s_pu (p_move rfl) rfl ?_
   refine s_pu (p_move rfl) rfl ?_
   refine s_pu (p_nilCheck rfl) rfl ?_
   refine s_pu (p_field rfl) rfl ?_
   refine s_pu (p_elemA rfl rfl ?_ ?_) rfl ?_
   ·
    omega
   ·
    omega
   refine k_dx (hs.cell .head) rfl (by rw [Int.toNat_natCast]; omega) rfl ?_
   rw [show x1 (((r + w1_ : Nat) : Int).toNat) = x (r + w1_) by rw [Int.toNat_natCast]; exact hxr]
   refine s_pu (p_convK (z := x (r + w1_)) rfl (wrU64 (by omega) (by omega))) rfl ?_
   refine s_pu (p_assign rfl) rfl ?_
   refine WL_th ?_
   refine W_forget (Ext.cd 0 rfl (Ext.cd 1 rfl (Ext.cd 4 rfl (Ext.cd 5 rfl (Ext.cd 6 rfl (Ext.cd 8 rfl (Ext.cd 9 rfl (Ext.nil _)))))))) ?_
   refine W_sr ?_
   refine s_pu (p_move rfl) rfl ?_
   refine s_pu (p_move rfl) rfl ?_
   refine s_pu (p_shrK (z := ((m / 2 ^ k : Nat) : Int)) rfl rfl (by omega) (shrN (m) k (by omega))) rfl ?_
   refine s_pu (p_assign rfl) rfl ?_
   refine WL_th ?_
   refine W_sr ?_
   refine s_pu (p_move rfl) rfl ?_
   refine s_pu (p_move rfl) rfl ?_
   refine s_pu (p_andK (z := ((m % 2 ^ k : Nat) : Int)) rfl rfl (bMask_u64 m k (by omega) (by omega))) rfl ?_
   refine s_pu (p_assign rfl) rfl ?_
   refine WL_th ?_
   refine W_sr ?_
   refine s_pu (p_move rfl) rfl ?_
   refine s_pu (p_move rfl) rfl ?_
   refine s_pu (p_move rfl) rfl ?_
   refine s_pu (p_addK (z := 48 + ((m / 2 ^ k : Nat) : Int)) rfl rfl (by rw [wrU64 (by omega) (by omega)]; omega)) rfl ?_
   refine s_pu (p_convK (z := 48 + ((m / 2 ^ k : Nat) : Int)) rfl (wrU8 (by omega) (by omega))) rfl ?_
   refine s_pu (p_nilCheck rfl) rfl ?_
   refine s_pu (p_field rfl) rfl ?_
   refine s_pu (p_elemA rfl rfl ?_ ?_) rfl ?_
   ·
    omega
   ·
    omega
   refine k_sx hs rfl rfl (by rw [Int.toNat_natCast]; omega) ?_
   intro _ hs
   rw [Int.toNat_natCast] at hs
   refine WL_th ?_
   refine W_forget (Ext.cd 0 rfl (Ext.cd 1 rfl (Ext.cd 4 rfl (Ext.cd 5 rfl (Ext.cd 6 rfl (Ext.cd 8 rfl (Ext.cd 9 rfl (Ext.nil _)))))))) ?_
   refine W_sr ?_
   refine s_pu (p_move rfl) rfl ?_
   refine s_pu (p_addI rfl rfl ?_) rfl ?_
   ·
    omega
   refine s_pu (p_assign rfl) rfl ?_
   refine WL_th ?_
   refine W_reg ?_
   refine s_pu (p_move rfl) rfl ?_
   have hmm := Nat.mod_lt m hp0
   refine s_pu (p_mulK (z := (((m % 2 ^ k) * 10 : Nat) : Int)) rfl rfl (by rw [wrU64 (by omega) (by omega)]; simp)) rfl ?_
   refine s_pu (p_move rfl) rfl ?_
   refine s_pu (p_addK (z := ((m % 2 ^ k * 10 : Nat) : Int) + x (r + w1_)) rfl rfl (wrU64 (by omega) (by omega))) rfl ?_
   refine s_pu (p_subK (z := ((m % 2 ^ k * 10 + yv x (r + w1_) : Nat) : Int)) rfl rfl (by rw [wrU64 (by omega) (by omega)]; omega)) rfl ?_
   refine s_pu (p_assign rfl) rfl ?_
   refine WL_nil ?_
   show W _ _ _ _ _ _
   refine W_reg ?_
   refine s_pu (p_move rfl) rfl ?_
   refine s_pu (p_addI rfl rfl ?_) rfl ?_
   ·
    omega
   refine s_pu (p_assign rfl) rfl ?_
   refine WL_th ?_
   refine ⟨(updN x1 w1_ (48 + ((m / 2 ^ k : Nat) : Int)), w1_ + 1, m % 2 ^ k * 10 + yv x (r + w1_)), (Ext.cons rfl (Ext.cons rfl (Ext.cons (by show some (Value.int .i64 (((r + w1_ : Nat) : Int) + 1)) = some (Value.int .i64 ((r + (w1_ + 1) : Nat) : Int)); congr 2) (Ext.cons (by show some (Value.int .i64 ((w1_ : Int) + 1)) = _; simp) (Ext.cons rfl (Ext.cons rfl (Ext.nil _))))))), ⟨mod_ten (by omega), digs_upd hdg hmd9, fun i hi => by dsimp only at hi ⊢; rw [updN_ne (by omega)]; exact hun i (by omega), fun h => by dsimp only at h; omega, fun _ => ⟨head_upd hw0 (fun h => (hw1 h).1), by dsimp only; omega⟩, hs⟩, by dsimp only; omega⟩
  ·
   have hwn : w1_ ≤ 800 := Nat.le_of_not_lt fun h => by have := (hw1 (by omega)).2; omega
   refine W_exit ?_
   show W _ _ _ _ _ _
   refine W_seq ?_
   refine W_block ?_
   refine W_loop (α := (Nat → Int) × Nat × Nat × Nat × Bool) (fun q => (upd (upd (upd (upd (upd emp 8 (.int .u64 (2 ^ k - 1))) 6 (.int .u64 q.2.2.1)) 5 (.int .i64 q.2.1)) 1 (.int .u64 k)) 0 (.pointer (some ⟨db, 0, none⟩)))) (fun q w => q.2.1 ≤ 800 ∧ q.2.2.1 < 10 * 2 ^ k ∧ Digs q.1 q.2.1 ∧ (q.2.1 = 0 → q.2.2.1 = n) ∧ (0 < q.2.1 → q.1 0 = 48 + ((n / 2 ^ k : Nat) : Int)) ∧ q.2.2.2.1 ≤ k ∧ 2 ^ q.2.2.2.1 ∣ q.2.2.1 ∧ St wI S w [pt db 268 804 (dC q.1 (nd : Nat) (dp - ((r : Int) - 1)) ng q.2.2.2.2)]) (fun q => if q.2.2.1 = 0 then 0 else k + 1 - q.2.2.2.1) (x1, w1_, m, 0, tr) (Ext.cons rfl (Ext.cons rfl (Ext.cons rfl (Ext.cons rfl (Ext.cons rfl (Ext.nil _)))))) ⟨hwn, hm, hdg, hw0, fun h => (hw1 h).1, Nat.zero_le _, by simp, hs⟩ (fun q w hx => ?_)
   clear hm hdg hun hw0 hw1 hs hmd9 hwn
   obtain ⟨hwn, hm, hdg, hw0, hw1, hj, hjd, hs⟩ := hx
   obtain ⟨x2, w2_, m, j, tr2⟩ := q
   simp only at hwn hm hdg hw0 hw1 hj hjd hs
   refine W_forget (e' := (upd (upd (upd (upd (upd emp 8 (.int .u64 (2 ^ k - 1))) 6 (.int .u64 m)) 5 (.int .i64 w2_)) 1 (.int .u64 k)) 0 (.pointer (some ⟨db, 0, none⟩)))) (Ext.cons rfl (Ext.cons rfl (Ext.cons rfl (Ext.cons rfl (Ext.cons rfl (Ext.nil _)))))) ?_
   have hmd9 : m / 2 ^ k ≤ 9 := by have := (Nat.div_lt_iff_lt_mul hp0).2 hm; omega
   have hmd0 : (0 : Int) ≤ ((m / 2 ^ k : Nat) : Int) := Int.natCast_nonneg _
   have hmd9i : ((m / 2 ^ k : Nat) : Int) ≤ 9 := by exact_mod_cast hmd9
   refine W_seq ?_
   refine W_sr ?_
   refine s_pu (p_move rfl) rfl ?_
   refine s_pu (p_gtI rfl rfl) rfl ?_
   refine WL_th ?_
   refine W_if rfl (fun h98 => ?_) (fun h98 => ?_)
   ·
    have hmpos : 0 < m := by have := of_decide_eq_true h98; omega
    refine W_skip_th ?_
    refine W_block ?_
    refine W_sr ?_
    refine s_pu (p_move rfl) rfl ?_
    refine s_pu (p_move rfl) rfl ?_
    refine s_pu (p_shrK (z := ((m / 2 ^ k : Nat) : Int)) rfl rfl (by omega) (shrN (m) k (by omega))) rfl ?_
    refine s_pu (p_assign rfl) rfl ?_
    refine WL_th ?_
    refine W_sr ?_
    refine s_pu (p_move rfl) rfl ?_
    refine s_pu (p_move rfl) rfl ?_
    refine s_pu (p_andK (z := ((m % 2 ^ k : Nat) : Int)) rfl rfl (bMask_u64 m k (by omega) (by omega))) rfl ?_
    refine s_pu (p_assign rfl) rfl ?_
    refine WL_th ?_
    refine W_join (fun e' w' => ∃ (x3 : Nat → Int) (w3_ : Nat) (tr3 : Bool), Ext e' (upd (upd (upd (upd (upd emp 8 (.int .u64 (2 ^ k - 1))) 6 (.int .u64 (m % 2 ^ k : Nat))) 5 (.int .i64 w3_)) 1 (.int .u64 k)) 0 (.pointer (some ⟨db, 0, none⟩))) ∧ St wI S w' [pt db 268 804 (dC x3 (nd : Nat) (dp - ((r : Int) - 1)) ng tr3)] ∧ w3_ ≤ 800 ∧ Digs x3 w3_ ∧ (w3_ = 0 → m % 2 ^ k * 10 = n) ∧ (0 < w3_ → x3 0 = 48 + ((n / 2 ^ k : Nat) : Int))) ?_ ?_
    ·
     refine W_sr ?_
     refine s_pu (p_move rfl) rfl ?_
     refine s_pu (p_ltI rfl rfl) rfl ?_
     refine WL_th ?_
     refine W_if rfl (fun h106 => ?_) (fun h106 => ?_)
     ·
      have hw8 : w2_ < 800 := by have := of_decide_eq_true h106; omega
      refine W_sr ?_
      refine s_pu (p_move rfl) rfl ?_
      refine s_pu (p_move rfl) rfl ?_
      refine s_pu (p_move rfl) rfl ?_
      refine s_pu (p_addK (z := 48 + ((m / 2 ^ k : Nat) : Int)) rfl rfl (by rw [wrU64 (by omega) (by omega)]; omega)) rfl ?_
      refine s_pu (p_convK (z := 48 + ((m / 2 ^ k : Nat) : Int)) rfl (wrU8 (by omega) (by omega))) rfl ?_
      refine s_pu (p_nilCheck rfl) rfl ?_
      refine s_pu (p_field rfl) rfl ?_
      refine s_pu (p_elemA rfl rfl ?_ ?_) rfl ?_
      ·
       omega
      ·
       omega
      refine k_sx hs rfl rfl (by rw [Int.toNat_natCast]; omega) ?_
      intro _ hs
      rw [Int.toNat_natCast] at hs
      refine WL_th ?_
      refine W_forget (Ext.cd 0 rfl (Ext.cd 1 rfl (Ext.cd 5 rfl (Ext.cd 6 rfl (Ext.cd 8 rfl (Ext.nil _)))))) ?_
      refine W_reg ?_
      refine s_pu (p_move rfl) rfl ?_
      refine s_pu (p_addI rfl rfl ?_) rfl ?_
      ·
       omega
      refine s_pu (p_assign rfl) rfl ?_
      refine WL_th ?_
      exact ⟨updN x2 w2_ (48 + ((m / 2 ^ k : Nat) : Int)), w2_ + 1, tr2, (Ext.cons rfl (Ext.cons rfl (Ext.cons (by show some (Value.int .i64 ((w2_ : Int) + 1)) = _; simp) (Ext.cons rfl (Ext.cons rfl (Ext.nil _)))))), hs, by omega, digs_upd hdg hmd9, fun h => by omega, fun _ => head_upd hw0 hw1⟩
     ·
      have hw8 : w2_ = 800 := by have := of_decide_eq_false h106; omega
      refine W_sr ?_
      refine s_pu (p_move rfl) rfl ?_
      refine s_pu (p_gtI rfl rfl) rfl ?_
      refine WL_th ?_
      refine W_forget (Ext.cd 0 rfl (Ext.cd 1 rfl (Ext.cd 5 rfl (Ext.cd 6 rfl (Ext.cd 8 rfl (Ext.cd 118 rfl (Ext.nil _))))))) ?_
      refine W_if rfl (fun h118 => ?_) (fun h118 => ?_)
      ·
       refine W_reg ?_
       refine s_pu (p_move rfl) rfl ?_
       refine s_pu (p_nilCheck rfl) rfl ?_
       refine s_pu (p_field rfl) rfl ?_
       refine k_str hs rfl rfl ?_
       intro _ hs
       refine WL_th ?_
       exact ⟨x2, w2_, true, (Ext.cons rfl (Ext.cons rfl (Ext.cons rfl (Ext.cons rfl (Ext.cons rfl (Ext.nil _)))))), hs, by omega, hdg, fun h => by omega, hw1⟩
      ·
       refine W_skip_th ?_
       exact ⟨x2, w2_, tr2, (Ext.cons rfl (Ext.cons rfl (Ext.cons rfl (Ext.cons rfl (Ext.cons rfl (Ext.nil _)))))), hs, by omega, hdg, fun h => by omega, hw1⟩
    ·
     rintro e2 w2 ⟨x3, w3_, tr3, hx, hs, hk1_, hk2_, hk3_, hk4_⟩
     refine W_forget hx ?_
     clear hx
     have mod_ten0 : m % 2 ^ k * 10 < 10 * 2 ^ k := by have := Nat.mod_lt m hp0; omega
     refine W_reg ?_
     refine s_pu (p_move rfl) rfl ?_
     have hmm := Nat.mod_lt m hp0
     refine s_pu (p_mulK (z := (((m % 2 ^ k) * 10 : Nat) : Int)) rfl rfl (by rw [wrU64 (by omega) (by omega)]; simp)) rfl ?_
     refine s_pu (p_assign rfl) rfl ?_
     refine WL_nil ?_
     show ∃ _, _
     refine ⟨(x3, w3_, m % 2 ^ k * 10, min (j + 1) k, tr3), (Ext.cons rfl (Ext.cons rfl (Ext.cons rfl (Ext.cons rfl (Ext.cons rfl (Ext.nil _)))))), ⟨hk1_, mod_ten0, hk2_, hk3_, hk4_, by dsimp only; omega, next_div hj hjd, hs⟩, next_lt hj hjd hmpos⟩
   ·
    have hm0 : m = 0 := by have := of_decide_eq_false h98; omega
    have hwpos : 0 < w2_ := Nat.pos_of_ne_zero fun h => by have := hw0 h; omega
    refine W_exit ?_
    show W _ _ _ _ _ _
    refine W_sr ?_
    refine s_pu (p_move rfl) rfl ?_
    refine s_pu (p_move rfl) rfl ?_
    refine s_pu (p_nilCheck rfl) rfl ?_
    refine s_pu (p_field rfl) rfl ?_
    refine k_snd hs rfl rfl ?_
    intro _ hs
    refine WL_th ?_
    refine W_reg ?_
    refine s_pu (p_move rfl) rfl ?_
    refine k_spec [pt db 268 804 (dC x2 (w2_ : Nat) (dp - ((r : Int) - 1)) ng tr2)] (c_trim db x2 w2_ (dp - ((r : Int) - 1)) ng tr2 hwpos hwn (by rw [hw1 hwpos]; omega)) hs (.cons rfl .nil) rfl ?_
    rintro v129 _ _ ⟨m3, hm31, hm32, rfl⟩ hs
    refine WL_nil ?_
    refine end_none (fn := Tryz.f156) rfl ?_
    have hfall := hT.falls hk1 hk2 (by have := yv_lt hd 0 (by omega); omega) hy0
    have hx0 := yv_eq hd (show 0 < nd by omega)
    exact hs.spec ⟨x2, m3, (dp - ((r : Int) - 1)), tr2, hm31, by omega, fun i hi => hdg i (by omega), by rw [hw1 hwpos]; omega, by rw [hw1 hwpos]; omega, by omega, by omega, rfl⟩
end Go.Proofs.YtmalghopogngoaaGreatDoor
set_option linter.unusedVariables false
set_option linter.unusedSimpArgs false
set_option maxRecDepth 4000
namespace Go.Proofs.YtmalghopogngoaaGreatDoor
open Go Go.RowKit MW
/-- What a row of the cheat table says, checked. -/
def rowOK (k : Nat) : Bool := match Go.Pinned.cheatRows[k]? with
 | some (δ, ds) => Nat.ble 1 k && Nat.ble k 60 && Nat.ble 1 δ && Nat.ble δ 19 && Nat.beq (k + 1) (δ + ds.length) && Nat.ble (10 ^ (δ - 1)) (2 ^ k) && Nat.blt (2 ^ k) (10 ^ δ) && Nat.ble (k + 8) (14 * max 1 (δ - 1)) &&
   Nat.beq (dv (fun i => (ds[i]?.getD 0).toNat - 48) ds.length) (5 ^ k) && ds.all (fun b => Nat.ble 48 b.toNat && Nat.ble b.toNat 57) && Nat.ble 49 (ds[ds.length - 1]?.getD 0).toNat && Nat.ble 1 ds.length
 | none => false
structure Cheat (k δ : Nat) (ds : List UInt8) : Prop where
 row : Go.Pinned.cheatRows[k]? = some (δ, ds)
 k1 : 1 ≤ k
 k2 : k ≤ 60
 d1 : 1 ≤ δ
 d2 : δ ≤ 19
 sum : k + 1 = δ + ds.length
 lo : 10 ^ (δ - 1) ≤ 2 ^ k
 hi : 2 ^ k < 10 ^ δ
 pot : k + 8 ≤ 14 * max 1 (δ - 1)
 num : dv (cv ⟨ds.toArray⟩) ds.length = 5 ^ k
 digs : ∀ i, i < ds.length → dig (bt ⟨ds.toArray⟩ i)
 last : 49 ≤ bt ⟨ds.toArray⟩ (ds.length - 1)
theorem bt_list (ds : List UInt8) (i : Nat) : bt ⟨ds.toArray⟩ i = (ds[i]?.getD 0).toNat := by
 unfold bt
 simp
theorem cheat_of {k : Nat} (h : rowOK k = true) : ∃ δ ds, Cheat k δ ds := by
 unfold rowOK at h
 split at h
 ·
  rename_i δ ds hrow
  simp only [Bool.and_eq_true] at h
  obtain ⟨⟨⟨⟨⟨⟨⟨⟨⟨⟨⟨a1, a2⟩, a3⟩, a4⟩, a5⟩, a6⟩, a7⟩, a8⟩, a9⟩, a10⟩, a11⟩, a12⟩ := h
  refine ⟨δ, ds, hrow, Nat.le_of_ble_eq_true a1, Nat.le_of_ble_eq_true a2, Nat.le_of_ble_eq_true a3, Nat.le_of_ble_eq_true a4, Nat.eq_of_beq_eq_true a5, Nat.le_of_ble_eq_true a6, Nat.le_of_ble_eq_true a7, Nat.le_of_ble_eq_true a8, ?_, fun i hi => ?_, ?_⟩
  ·
   rw [← Nat.eq_of_beq_eq_true a9]
   exact dv_congr fun i _ => by unfold cv; rw [bt_list]
  ·
   rw [bt_list]
   rw [List.all_eq_true] at a10
   have := a10 (ds[i]'hi) (List.getElem_mem _)
   rw [Bool.and_eq_true] at this
   rw [List.getElem?_eq_getElem hi]
   exact ⟨Nat.le_of_ble_eq_true this.1, Nat.le_of_ble_eq_true this.2⟩
  ·
   rw [bt_list]
   exact Nat.le_of_ble_eq_true a11
 ·
  cases h
/-- What a shift to the left leaves: the point and the first digit rise. -/
def RiseL (db k : Nat) (x : Nat → Int) (dp : Int) (ng : Bool) (R : World → Prop) (G : List Assn) : Prop :=
 ∃ (x' : Nat → Int) (nd' : Nat) (dp' : Int) (tr' : Bool), 1 ≤ nd' ∧ nd' ≤ 800 ∧ Digs x' nd' ∧ x' 0 ≠ 48 ∧ (k : Int) + 14 * dp + x 0 ≤ 14 * dp' + x' 0 ∧ dp ≤ dp' ∧ dp' ≤ dp + 19 ∧ G = [pt db 268 804 (dC x' (nd' : Nat) dp' ng tr'), hold R]
theorem lt_two_pow (k : Nat) : k + 1 ≤ 2 ^ k := Nat.lt_two_pow_self
theorem quo10 (n : Nat) : ((n : Int).tdiv 10) = ((n / 10 : Nat) : Int) := by
 rw [Int.tdiv_eq_ediv_of_nonneg (by omega)]
 simp
/-- The first digit behind a shift to the left, and what the sum of point and digit has won. -/
theorem left_final {y : Nat → Nat} {x x2 : Nat → Int} {k δ e nd : Nat} (hy0 : 1 ≤ y 0) (hy9 : y 0 ≤ 9) (hp : 0 < 2 ^ k) (hd1 : 1 ≤ δ) (he1 : δ ≤ e + 1) (he2 : e ≤ δ) (hpot : k + 8 ≤ 14 * max 1 (δ - 1)) (hnd : ndig (dv y nd * 2 ^ k / 10 ^ nd) e) (h1 : 1 ≤ nd)
  (hlow : e = 0 → x2 0 = 48 + (((cr y (2 ^ k) 1 (nd - 1) + y 0 * 2 ^ k) % 10 : Nat) : Int)) (hlead : 0 < e → 49 ≤ x2 0) (hdg : 0 < 1 → 48 ≤ x2 0 ∧ x2 0 ≤ 57) (hx0 : x 0 = 48 + (y 0 : Nat)) :
  x2 0 ≠ 48 ∧ (k : Int) + x 0 ≤ 14 * (e : Int) + x2 0 := by
 have hd := hdg (by decide)
 rcases Nat.eq_zero_or_pos e with he | he
 ·
  have hl := hlow he
  subst he
  have hz : dv y nd * 2 ^ k / 10 ^ nd = 0 := by have := hnd.1; simpa using this
  rw [← cr_all, show nd = (nd - 1) + 1 by omega, cr] at hz
  rw [Nat.zero_add] at hz
  have hz2 : cr y (2 ^ k) 1 (nd - 1) + y 0 * 2 ^ k < 10 := by omega
  rw [Nat.mod_eq_of_lt hz2] at hl
  have hk := lt_two_pow k
  have hm := Nat.mul_le_mul_left (y 0) hk
  have hm2 : y 0 * (k + 1) = y 0 * k + y 0 := Nat.mul_succ _ _
  have hm3 : k ≤ y 0 * k := Nat.le_mul_of_pos_left k hy0
  constructor <;> omega
 ·
  have hl := hlead he
  constructor
  ·
   omega
  ·
   have : max 1 (δ - 1) ≤ e := by omega
   omega
theorem c_leftShift (db k δ : Nat) (ds : List UInt8) (hC : Cheat k δ ds) (R : World → Prop) (hR : ∀ w, R w → GP w) (x : Nat → Int) (nd : Nat) (dp : Int) (ng tr : Bool) (h1 : 1 ≤ nd) (h2 : nd ≤ 800) (hd : Digs x nd) (h0 : x 0 ≠ 48) (hp1 : -10000 ≤ dp) (hp2 : dp ≤ 10000) :
  MW.Spec Tryz.prog 155 [.pointer (some ⟨db, 0, none⟩), .int .u64 k].toArray [pt db 268 804 (dC x (nd : Nat) dp ng tr), hold R] fun v G => RiseL db k x dp ng R G := by
 intro wI S hsat
 have hs := St.start hsat
 have hy0 : 1 ≤ yv x 0 := by have := hd 0 (by omega); unfold yv; omega
 have hy9 : yv x 0 ≤ 9 := by have := yv_lt hd 0 (by omega); omega
 have hx0 := yv_eq hd (show 0 < nd by omega)
 have hck1 := hC.k1
 have hck2 := hC.k2
 have hcd2 := hC.d2
 have hcd1 := hC.d1
 have hcsum := hC.sum
 have hp60 : 2 ^ k ≤ 2 ^ 60 := Nat.pow_le_pow_right (by decide) hck2
 have hsh := shift_digits h1 (yv_lt hd) hy0 hC.num hC.sum hC.d1 hC.lo hC.hi
 refine calls_W (args := [_, _]) Tryz.func155 rfl Tryz.ntmps155 rfl ?_
 refine W_sr ?_
 obtain ⟨b13, o13, c13, hg1, hg2⟩ := (hR _ (hs.now .t1)).cheat
 refine kc_ldv hg1 rfl rfl rfl ?_
 refine s_pu (p_move rfl) rfl ?_
 refine s_pu (p_elem (i := (k : Int)) rfl rfl (by omega) (by omega)) rfl ?_
 refine s_pu (p_field rfl) rfl ?_
 refine kc_ldv (a := ⟨b13, o13 + ((k : Int).toNat) * 2 + 0, none⟩) (by rw [Int.toNat_natCast]; exact (hg2 k δ ds hC.row).1) rfl rfl rfl ?_
 refine s_pu (p_assign rfl) rfl ?_
 refine WL_th ?_
 refine W_join (fun e' w' => ∃ e : Nat, Ext e' (upd (upd (upd emp 4 (.int .i64 e)) 1 (.int .u64 k)) 0 (.pointer (some ⟨db, 0, none⟩))) ∧ St wI S w' [pt db 268 804 (dC x (nd : Nat) dp ng tr), hold R] ∧ ndig (dv (yv x) nd * 2 ^ k / 10 ^ nd) e ∧ δ ≤ e + 1 ∧ e ≤ δ) ?_ ?_
 ·
  refine W_seq ?_
  refine h_start (S := fun w => w.heap[db]? = some (.cells (mkA 804 (dC x (nd : Nat) dp ng tr)) 268 (0, 0))) (ls := #[false, false, false, false, false, false, false, false, false, false, false, false, false, false]) (n := 14) (by kernel_rfl) (by kernel_rfl) ?_
  have hs := hs.drew
  refine h_pu 0 rfl (ls' := #[true, false, false, false, false, false, false, false, false, false, false, false, false, false]) (by kernel_rfl) (fun _ _ _ h => h) rfl (hs.cell .head) (p_move rfl) ?_
  refine h_pu 1 rfl (ls' := #[true, true, false, false, false, false, false, false, false, false, false, false, false, false]) (by kernel_rfl) (fun _ _ _ h => h) rfl (hs.cell .head) (p_nilCheck rfl) ?_
  refine h_pu 2 rfl (ls' := #[true, true, true, false, false, false, false, false, false, false, false, false, false, false]) (by kernel_rfl) (fun _ _ _ h => h) rfl (hs.cell .head) (p_field rfl) ?_
  refine h_pu 3 rfl (ls' := #[true, true, true, true, false, false, false, false, false, false, false, false, false, false]) (by kernel_rfl) (fun _ _ _ h => h) rfl (hs.cell .head) (p_move rfl) ?_
  refine h_pu 4 rfl (ls' := #[true, true, true, true, true, false, false, false, false, false, false, false, false, false]) (by kernel_rfl) (fun _ _ _ h => h) rfl (hs.cell .head) (p_nilCheck rfl) ?_
  refine h_pu 5 rfl (ls' := #[true, true, true, true, true, true, false, false, false, false, false, false, false, false]) (by kernel_rfl) (fun _ _ _ h => h) rfl (hs.cell .head) (p_field rfl) ?_
  refine h_take 6 rfl (ls' := #[true, true, true, true, true, true, true, false, false, false, false, false, false, false]) (by kernel_rfl) (fun _ _ _ h => h) rfl (hs.cell .head) (fun w hw => m_load1 rfl (pt_cell hw 800 (by decide))) ?_
  refine h_pu 7 rfl (ls' := #[true, true, true, true, true, true, true, true, false, false, false, false, false, false]) (by kernel_rfl) (fun _ _ _ h => h) rfl (hs.cell .head) (p_arr rfl rfl rfl (by omega) (show ((nd : Nat) : Int) ≤ ((800 : Nat) : Int) by omega)) ?_
  refine h_pu 9 rfl (ls' := #[true, true, true, true, true, true, true, true, false, true, false, false, false, false]) (by kernel_rfl) (fun _ _ _ h => h) rfl (hs.cell .head) (p_move rfl) ?_
  refine h_one 8 rfl (ls' := #[true, true, true, true, true, true, true, true, true, true, false, false, false, false]) (by kernel_rfl) ?_
  obtain ⟨b14, o14, c14, hg3, hg4⟩ := (hR _ (hs.now .t1)).cheat
  refine kc_ldv hg3 rfl rfl rfl ?_
  refine WL_th ⟨(hs.cell .head), ?_⟩
  refine h_pu 10 rfl (ls' := #[true, true, true, true, true, true, true, true, true, true, true, false, false, false]) (by kernel_rfl) (fun _ _ _ h => h) rfl (hs.cell .head) (p_elem (i := (k : Int)) rfl rfl (by omega) (by omega)) ?_
  refine h_pu 11 rfl (ls' := #[true, true, true, true, true, true, true, true, true, true, true, true, false, false]) (by kernel_rfl) (fun _ _ _ h => h) rfl (hs.cell .head) (p_field rfl) ?_
  refine h_one 12 rfl (ls' := #[true, true, true, true, true, true, true, true, true, true, true, true, true, false]) (by kernel_rfl) ?_
  refine kc_ldv (a := ⟨b14, o14 + ((k : Int).toNat) * 2 + 1, none⟩) (by rw [Int.toNat_natCast]; exact (hg4 k δ ds hC.row).2) rfl rfl rfl ?_
  refine WL_th ⟨(hs.cell .head), ?_⟩
  refine h_one 13 rfl (ls' := #[true, true, true, true, true, true, true, true, true, true, true, true, true, true]) (by kernel_rfl) ?_
  refine k_quiet (c_prefixLess db x (nd : Nat) dp ng tr nd ⟨ds.toArray⟩ h2 (by show ds.length ≤ 1000; omega) hd (fun i hi => hC.digs i hi) (fun _ => hC.last) _ (hs.cell .head)) hs (.cons rfl (.cons rfl .nil)) rfl ?_
  rintro _ _ ⟨b30, rfl, hbt, hbf⟩ hs _
  refine WL_th ⟨(hs.cell .head), ?_⟩
  refine h_done (by kernel_rfl) ?_
  show W _ _ _ _ _ _
  refine W_forget (Ext.cd 0 rfl (Ext.cd 1 rfl (Ext.cd 4 rfl (Ext.cd 30 rfl (Ext.nil _))))) ?_
  refine W_if rfl (fun h30 => ?_) (fun h30 => ?_)
  ·
   refine W_reg ?_
   refine s_pu (p_move rfl) rfl ?_
   refine s_pu (p_subI rfl rfl ?_) rfl ?_
   ·
    omega
   refine s_pu (p_assign rfl) rfl ?_
   refine WL_th ?_
   refine ⟨δ - 1, (Ext.cons rfl (Ext.cons rfl (Ext.cons (by show some (Value.int .i64 ((δ : Int) - 1)) = some (Value.int .i64 ((δ - 1 : Nat) : Int)); congr 2; omega) (Ext.nil _)))), hs, ?_, by omega, by omega⟩
   have hsd := hsh b30 (fun h => hbt h) (fun h => hbf h)
   rw [h30] at hsd
   exact hsd
  ·
   refine W_skip_th ?_
   refine ⟨δ, (Ext.cons rfl (Ext.cons rfl (Ext.cons rfl (Ext.nil _)))), hs, ?_, by omega, by omega⟩
   have hsd := hsh b30 (fun h => hbt h) (fun h => hbf h)
   rw [h30] at hsd
   exact hsd
 ·
  rintro e1 w1 ⟨e, hx, hs, hnd, he1, he2⟩
  refine W_forget hx ?_
  clear hx
  refine W_sr ?_
  refine s_pu (p_move rfl) rfl ?_
  refine s_pu (p_nilCheck rfl) rfl ?_
  refine s_pu (p_field rfl) rfl ?_
  refine k_dnd (hs.cell .head) rfl rfl ?_
  refine s_pu (p_assign rfl) rfl ?_
  refine WL_th ?_
  refine W_sr ?_
  refine s_pu (p_move rfl) rfl ?_
  refine s_pu (p_nilCheck rfl) rfl ?_
  refine s_pu (p_field rfl) rfl ?_
  refine k_dnd (hs.cell .head) rfl rfl ?_
  refine s_pu (p_move rfl) rfl ?_
  refine s_pu (p_addI rfl rfl ?_) rfl ?_
  ·
   omega
  refine s_pu (p_assign rfl) rfl ?_
  refine WL_th ?_
  refine W_sr ?_
  refine s_pu (p_assign rfl) rfl ?_
  refine WL_th ?_
  refine W_seq ?_
  refine W_sr ?_
  refine s_pu (p_move rfl) rfl ?_
  refine s_pu (p_subI rfl rfl ?_) rfl ?_
  ·
   omega
  refine s_pu (p_assign rfl) rfl ?_
  refine WL_th ?_
  refine W_forget (Ext.cd 0 rfl (Ext.cd 1 rfl (Ext.cd 4 rfl (Ext.cd 5 rfl (Ext.cd 6 rfl (Ext.cd 7 rfl (Ext.nil _))))))) ?_
  refine W_block ?_
  refine W_loop (α := Nat × (Nat → Int) × Bool) (fun q => (upd (upd (upd (upd (upd (upd emp 7 (.int .u64 (cr (yv x) (2 ^ k) q.1 (nd - q.1) : Nat))) 6 (.int .i64 ((q.1 : Int) + (e : Int)))) 5 (.int .i64 ((q.1 : Int) - 1))) 4 (.int .i64 e)) 1 (.int .u64 k)) 0 (.pointer (some ⟨db, 0, none⟩)))) (fun q w => q.1 ≤ nd ∧ (∀ i, i < q.1 → q.2.1 i = x i) ∧ (∀ i, q.1 + e ≤ i → i < nd + e → i < 800 → 48 ≤ q.2.1 i ∧ q.2.1 i ≤ 57) ∧ (q.1 < nd → q.1 + e < 800 → q.2.1 (q.1 + e) = 48 + (((cr (yv x) (2 ^ k) (q.1 + 1) (nd - q.1 - 1) + yv x q.1 * 2 ^ k) % 10 : Nat) : Int)) ∧ St wI S w [pt db 268 804 (dC q.2.1 (nd : Nat) dp ng q.2.2), hold R]) (fun q => q.1) (nd, x, tr) (Ext.cons rfl (Ext.cons rfl (Ext.cons rfl (Ext.cons rfl (Ext.cons rfl (Ext.cons (by show some (Value.int .u64 0) = some (Value.int .u64 ((cr (yv x) (2 ^ k) nd (nd - nd) : Nat) : Int)); rw [Nat.sub_self]; rfl) (Ext.nil _))))))) ⟨Nat.le_refl _, fun i _ => rfl, fun i a b => by (simp only at a b; omega), fun h => by (simp only at h; omega), hs⟩ (fun q w hx => ?_)
  obtain ⟨hq, hun, hdg, hlow, hs⟩ := hx
  obtain ⟨q, x1, tr1⟩ := q
  simp only at hq hun hdg hlow hs
  refine W_forget (e' := (upd (upd (upd (upd (upd (upd emp 7 (.int .u64 (cr (yv x) (2 ^ k) q (nd - q) : Nat))) 6 (.int .i64 ((q : Int) + (e : Int)))) 5 (.int .i64 ((q : Int) - 1))) 4 (.int .i64 e)) 1 (.int .u64 k)) 0 (.pointer (some ⟨db, 0, none⟩)))) (Ext.cons rfl (Ext.cons rfl (Ext.cons rfl (Ext.cons rfl (Ext.cons rfl (Ext.cons rfl (Ext.nil _))))))) ?_
  have hcr := cr_lt (y := yv x) (p2 k) (nd - q) q (fun t ht => yv_lt hd _ (by omega))
  refine W_seq ?_
  refine W_sr ?_
  refine s_pu (p_move rfl) rfl ?_
  refine s_pu (p_geI rfl rfl) rfl ?_
  refine WL_th ?_
  refine W_if rfl (fun h46 => ?_) (fun h46 => ?_)
  ·
   have hq1 : 1 ≤ q := by have := of_decide_eq_true h46; omega
   have hxq : x1 (q - 1) = x (q - 1) := hun _ (by omega)
   have hyq := yv_eq hd (show q - 1 < nd by omega)
   have hyq9 := yv_lt hd _ (show q - 1 < nd by omega)
   have hyK := Nat.mul_le_mul_right (2 ^ k) (show yv x (q - 1) ≤ 9 by omega)
   have e60 : (2 : Nat) ^ 60 = 1152921504606846976 := by decide
   obtain ⟨N1, hN1⟩ : ∃ N1, N1 = cr (yv x) (2 ^ k) q (nd - q) + yv x (q - 1) * 2 ^ k := ⟨_, rfl⟩
   have hcr1 : N1 / 10 = cr (yv x) (2 ^ k) (q - 1) (nd - (q - 1)) := by rw [show nd - (q - 1) = (nd - q) + 1 by omega, cr, show q - 1 + 1 = q by omega, hN1]
   have hN10 : N1 % 10 < 10 := Nat.mod_lt _ (by decide)
   refine W_skip_th ?_
   refine W_seq ?_
   refine W_block ?_
   refine W_sr ?_
   refine s_pu (p_move rfl) rfl ?_
   refine s_pu (p_move rfl) rfl ?_
   refine s_pu (p_move rfl) rfl ?_
   refine s_pu (p_nilCheck rfl) rfl ?_
   refine s_pu (p_field rfl) rfl ?_
   refine s_pu (p_elemA rfl rfl ?_ ?_) rfl ?_
   ·
    omega
   ·
    omega
   refine k_dx (i := (q : Int) - 1) (hs.cell .head) rfl (by omega) rfl ?_
   rw [show x1 (((q : Int) - 1).toNat) = x (q - 1) by rw [show ((q : Int) - 1).toNat = q - 1 by omega]; exact hxq]
   refine s_pu (p_convK (z := x (q - 1)) rfl (wrU64 (by omega) (by omega))) rfl ?_
   refine s_pu (p_subK (z := ((yv x (q - 1) : Nat) : Int)) rfl rfl (by rw [wrU64 (by omega) (by omega)]; omega)) rfl ?_
   refine s_pu (p_move rfl) rfl ?_
   refine s_pu (p_shlK (z := ((yv x (q - 1) * 2 ^ k : Nat) : Int)) rfl rfl (by omega) (shlN _ k (by omega) (by omega))) rfl ?_
   refine s_pu (p_addK (z := (N1 : Int)) rfl rfl (by rw [wrU64 (by omega) (by omega), hN1]; simp)) rfl ?_
   refine s_pu (p_assign rfl) rfl ?_
   refine WL_th ?_
   refine W_forget (Ext.cd 0 rfl (Ext.cd 1 rfl (Ext.cd 4 rfl (Ext.cd 5 rfl (Ext.cd 6 rfl (Ext.cd 7 rfl (Ext.nil _))))))) ?_
   refine W_sr ?_
   refine s_pu (p_move rfl) rfl ?_
   refine s_pu (p_quoK (z := ((N1 / 10 : Nat) : Int)) rfl rfl (by decide) (by rw [quo10, wrU64 (by omega) (by omega)])) rfl ?_
   refine s_pu (p_assign rfl) rfl ?_
   refine WL_th ?_
   refine W_sr ?_
   refine s_pu (p_move rfl) rfl ?_
   refine s_pu (p_move rfl) rfl ?_
   refine s_pu (p_mulK (z := ((10 * (N1 / 10) : Nat) : Int)) rfl rfl (by rw [wrU64 (by omega) (by omega)]; simp)) rfl ?_
   refine s_pu (p_subK (z := ((N1 % 10 : Nat) : Int)) rfl rfl (by rw [wrU64 (by omega) (by omega)]; omega)) rfl ?_
   refine s_pu (p_assign rfl) rfl ?_
   refine WL_th ?_
   refine W_sr ?_
   refine s_pu (p_move rfl) rfl ?_
   refine s_pu (p_subI rfl rfl ?_) rfl ?_
   ·
    omega
   refine s_pu (p_assign rfl) rfl ?_
   refine WL_th ?_
   refine W_join (fun e' w' => ∃ (x2 : Nat → Int) (tr2 : Bool), Ext e' (upd (upd (upd (upd (upd (upd emp 8 (.int .u64 (N1 / 10 : Nat))) 6 (.int .i64 ((q : Int) + (e : Int) - 1))) 5 (.int .i64 ((q : Int) - 1))) 4 (.int .i64 e)) 1 (.int .u64 k)) 0 (.pointer (some ⟨db, 0, none⟩))) ∧ St wI S w' [pt db 268 804 (dC x2 (nd : Nat) dp ng tr2), hold R] ∧ (∀ i, i < q - 1 → x2 i = x i) ∧ (∀ i, q - 1 + e ≤ i → i < nd + e → i < 800 → 48 ≤ x2 i ∧ x2 i ≤ 57) ∧ (q - 1 < nd → q - 1 + e < 800 → x2 (q - 1 + e) = 48 + (((cr (yv x) (2 ^ k) (q - 1 + 1) (nd - (q - 1) - 1) + yv x (q - 1) * 2 ^ k) % 10 : Nat) : Int))) ?_ ?_
   ·
    refine W_sr ?_
    refine s_pu (p_move rfl) rfl ?_
    refine s_pu (p_ltI rfl rfl) rfl ?_
    refine WL_th ?_
    refine W_if rfl (fun h70 => ?_) (fun h70 => ?_)
    ·
     have hw8 : q - 1 + e < 800 := by have := of_decide_eq_true h70; omega
     refine W_reg ?_
     refine s_pu (p_move rfl) rfl ?_
     refine s_pu (p_move rfl) rfl ?_
     refine s_pu (p_move rfl) rfl ?_
     refine s_pu (p_addK (z := 48 + ((N1 % 10 : Nat) : Int)) rfl rfl (by rw [wrU64 (by omega) (by omega)]; omega)) rfl ?_
     refine s_pu (p_convK (z := 48 + ((N1 % 10 : Nat) : Int)) rfl (wrU8 (by omega) (by omega))) rfl ?_
     refine s_pu (p_nilCheck rfl) rfl ?_
     refine s_pu (p_field rfl) rfl ?_
     refine s_pu (p_elemA rfl rfl ?_ ?_) rfl ?_
     ·
      omega
     ·
      omega
     refine k_sx (i := (q : Int) + (e : Int) - 1) hs rfl rfl (by omega) ?_
     intro _ hs
     rw [show ((q : Int) + (e : Int) - 1).toNat = q - 1 + e by omega] at hs
     refine WL_th ?_
     have hs1 : q - 1 + 1 = q := by omega
     have hs2 : nd - (q - 1) - 1 = nd - q := by omega
     refine ⟨updN x1 (q - 1 + e) (48 + ((N1 % 10 : Nat) : Int)), tr1, (Ext.cons rfl (Ext.cons rfl (Ext.cons rfl (Ext.cons rfl (Ext.cons rfl (Ext.cons rfl (Ext.nil _))))))), hs, fun i hi => ?_, fun i a b c => ?_, fun _ _ => ?_⟩
     ·
      rw [updN_ne (by omega)]; exact hun i (by omega)
     ·
      by_cases he : i = q - 1 + e
      ·
       rw [he, updN_eq]; omega
      ·
       rw [updN_ne he]; exact hdg i (by omega) b c
     ·
      rw [updN_eq, hs1, hs2, ← hN1]
    ·
     have hw8 : 800 ≤ q - 1 + e := by have := of_decide_eq_false h70; omega
     refine W_sr ?_
     refine s_pu (p_move rfl) rfl ?_
     refine s_pu (p_neI rfl rfl) rfl ?_
     refine WL_th ?_
     refine W_forget (Ext.cd 0 rfl (Ext.cd 1 rfl (Ext.cd 4 rfl (Ext.cd 5 rfl (Ext.cd 6 rfl (Ext.cd 8 rfl (Ext.cd 80 rfl (Ext.nil _)))))))) ?_
     refine W_if rfl (fun h80 => ?_) (fun h80 => ?_)
     ·
      refine W_reg ?_
      refine s_pu (p_move rfl) rfl ?_
      refine s_pu (p_nilCheck rfl) rfl ?_
      refine s_pu (p_field rfl) rfl ?_
      refine k_str hs rfl rfl ?_
      intro _ hs
      refine WL_th ?_
      exact ⟨x1, true, (Ext.cons rfl (Ext.cons rfl (Ext.cons rfl (Ext.cons rfl (Ext.cons rfl (Ext.cons rfl (Ext.nil _))))))), hs, fun i hi => hun i (by omega), fun i a b c => by omega, fun _ h => by omega⟩
     ·
      refine W_skip_th ?_
      exact ⟨x1, tr1, (Ext.cons rfl (Ext.cons rfl (Ext.cons rfl (Ext.cons rfl (Ext.cons rfl (Ext.cons rfl (Ext.nil _))))))), hs, fun i hi => hun i (by omega), fun i a b c => by omega, fun _ h => by omega⟩
   ·
    rintro e2 w2 ⟨x2, tr2, hx, hs, hk1_, hk2_, hk3_⟩
    refine W_forget hx ?_
    clear hx
    refine W_reg ?_
    refine s_pu (p_move rfl) rfl ?_
    refine s_pu (p_assign rfl) rfl ?_
    refine WL_nil ?_
    show W _ _ _ _ _ _
    refine W_reg ?_
    refine s_pu (p_move rfl) rfl ?_
    refine s_pu (p_subI rfl rfl ?_) rfl ?_
    ·
     omega
    refine s_pu (p_assign rfl) rfl ?_
    refine WL_th ?_
    refine ⟨(q - 1, x2, tr2), (Ext.cons rfl (Ext.cons rfl (Ext.cons rfl (Ext.cons (by show some (Value.int .i64 (((q : Int) - 1) - 1)) = some (Value.int .i64 (((q - 1 : Nat) : Int) - 1)); congr 2; omega) (Ext.cons (by show some (Value.int .i64 (((q : Int) + (e : Int)) - 1)) = some (Value.int .i64 (((q - 1 : Nat) : Int) + (e : Int))); congr 2; omega) (Ext.cons (by show some (Value.int .u64 ((N1 / 10 : Nat) : Int)) = some (Value.int .u64 ((cr (yv x) (2 ^ k) (q - 1) (nd - (q - 1)) : Nat) : Int)); rw [hcr1]) (Ext.nil _))))))), ⟨by omega, hk1_, hk2_, hk3_, hs⟩, by simp only; omega⟩
  ·
   obtain rfl : q = 0 := by have := of_decide_eq_false h46; omega
   refine W_exit ?_
   show W _ _ _ _ _ _
   refine W_seq ?_
   refine W_block ?_
   refine W_loop (α := Nat × Nat × (Nat → Int) × Bool) (fun q => (upd (upd (upd (upd emp 7 (.int .u64 q.2.1)) 6 (.int .i64 q.1)) 4 (.int .i64 e)) 0 (.pointer (some ⟨db, 0, none⟩)))) (fun q w => ndig q.2.1 q.1 ∧ q.1 ≤ e ∧ (∀ i, q.1 ≤ i → i < nd + e → i < 800 → 48 ≤ q.2.2.1 i ∧ q.2.2.1 i ≤ 57) ∧ (q.1 < e → q.2.1 = 0 → 49 ≤ q.2.2.1 q.1) ∧ (e = 0 → q.2.2.1 0 = 48 + (((cr (yv x) (2 ^ k) 1 (nd - 1) + yv x 0 * 2 ^ k) % 10 : Nat) : Int)) ∧ St wI S w [pt db 268 804 (dC q.2.2.1 (nd : Nat) dp ng q.2.2.2), hold R]) (fun q => q.2.1) (e, cr (yv x) (2 ^ k) 0 (nd - 0), x1, tr1) (Ext.cons rfl (Ext.cons rfl (Ext.cons (by show some (Value.int .i64 (((0 : Nat) : Int) + (e : Int))) = some (Value.int .i64 (e : Int)); congr 2; omega) (Ext.cons rfl (Ext.nil _))))) ⟨by dsimp only; rw [Nat.sub_zero, cr_all]; exact hnd, Nat.le_refl _, fun i a b c => hdg i (by dsimp only at a; omega) b c, fun h => by (dsimp only at h; omega), fun h => by (have := hlow (by omega) (by omega); subst h; simpa using this), hs⟩ (fun q w hx => ?_)
   clear hun hdg hlow
   obtain ⟨hn1, hw1, hdg, hlead, hlow, hs⟩ := hx
   obtain ⟨w1_, n1, x2, tr2⟩ := q
   simp only at hn1 hw1 hdg hlead hlow hs
   refine W_forget (e' := (upd (upd (upd (upd emp 7 (.int .u64 n1)) 6 (.int .i64 w1_)) 4 (.int .i64 e)) 0 (.pointer (some ⟨db, 0, none⟩)))) (Ext.cons rfl (Ext.cons rfl (Ext.cons rfl (Ext.cons rfl (Ext.nil _))))) ?_
   have hn64 : n1 < 18446744073709551616 := by have h1 := hn1.1; have h2 : 10 ^ w1_ ≤ 10 ^ 19 := Nat.pow_le_pow_right (by decide) (by omega); have e19 : (10 : Nat) ^ 19 = 10000000000000000000 := (by decide); omega
   refine W_seq ?_
   refine W_sr ?_
   refine s_pu (p_move rfl) rfl ?_
   refine s_pu (p_gtI rfl rfl) rfl ?_
   refine WL_th ?_
   refine W_if rfl (fun h86 => ?_) (fun h86 => ?_)
   ·
    have hnpos : 0 < n1 := by have := of_decide_eq_true h86; omega
    have hwpos := ndig_pos hn1 hnpos
    have hn10 : n1 % 10 < 10 := Nat.mod_lt _ (by decide)
    refine W_skip_th ?_
    refine W_block ?_
    refine W_sr ?_
    refine s_pu (p_move rfl) rfl ?_
    refine s_pu (p_quoK (z := ((n1 / 10 : Nat) : Int)) rfl rfl (by decide) (by rw [quo10, wrU64 (by omega) (by omega)])) rfl ?_
    refine s_pu (p_assign rfl) rfl ?_
    refine WL_th ?_
    refine W_sr ?_
    refine s_pu (p_move rfl) rfl ?_
    refine s_pu (p_move rfl) rfl ?_
    refine s_pu (p_mulK (z := ((10 * (n1 / 10) : Nat) : Int)) rfl rfl (by rw [wrU64 (by omega) (by omega)]; simp)) rfl ?_
    refine s_pu (p_subK (z := ((n1 % 10 : Nat) : Int)) rfl rfl (by rw [wrU64 (by omega) (by omega)]; omega)) rfl ?_
    refine s_pu (p_assign rfl) rfl ?_
    refine WL_th ?_
    refine W_sr ?_
    refine s_pu (p_move rfl) rfl ?_
    refine s_pu (p_subI rfl rfl ?_) rfl ?_
    ·
     omega
    refine s_pu (p_assign rfl) rfl ?_
    refine WL_th ?_
    refine W_forget (Ext.cd 0 rfl (Ext.cd 4 rfl (Ext.cd 6 rfl (Ext.cd 10 rfl (Ext.cd 11 rfl (Ext.nil _)))))) ?_
    refine W_seq ?_
    refine W_sr ?_
    refine s_pu (p_move rfl) rfl ?_
    refine s_pu (p_ltI rfl rfl) rfl ?_
    refine WL_th ?_
    refine W_if rfl (fun h96 => ?_) (fun h96 => ?_)
    ·
     refine W_reg ?_
     refine s_pu (p_move rfl) rfl ?_
     refine s_pu (p_move rfl) rfl ?_
     refine s_pu (p_move rfl) rfl ?_
     refine s_pu (p_addK (z := 48 + ((n1 % 10 : Nat) : Int)) rfl rfl (by rw [wrU64 (by omega) (by omega)]; omega)) rfl ?_
     refine s_pu (p_convK (z := 48 + ((n1 % 10 : Nat) : Int)) rfl (wrU8 (by omega) (by omega))) rfl ?_
     refine s_pu (p_nilCheck rfl) rfl ?_
     refine s_pu (p_field rfl) rfl ?_
     refine s_pu (p_elemA rfl rfl ?_ ?_) rfl ?_
     ·
      omega
     ·
      omega
     refine k_sx (i := (w1_ : Int) - 1) hs rfl rfl (by omega) ?_
     intro _ hs
     rw [show ((w1_ : Int) - 1).toNat = w1_ - 1 by omega] at hs
     refine WL_th ?_
     refine W_forget (Ext.cd 0 rfl (Ext.cd 4 rfl (Ext.cd 6 rfl (Ext.cd 10 rfl (Ext.nil _))))) ?_
     refine W_reg ?_
     refine s_pu (p_move rfl) rfl ?_
     refine s_pu (p_assign rfl) rfl ?_
     refine WL_nil ?_
     show ∃ _, _
     refine ⟨(w1_ - 1, n1 / 10, updN x2 (w1_ - 1) (48 + ((n1 % 10 : Nat) : Int)), tr2), (Ext.cons rfl (Ext.cons rfl (Ext.cons (by show some (Value.int .i64 ((w1_ : Int) - 1)) = some (Value.int .i64 ((w1_ - 1 : Nat) : Int)); congr 2; omega) (Ext.cons rfl (Ext.nil _))))), ⟨ndig_div hn1 hnpos, by dsimp only; omega, fun i a b c => by dsimp only at a ⊢; by_cases he : i = w1_ - 1 <;> first | (rw [he, updN_eq]; omega) | (rw [updN_ne he]; exact hdg i (by omega) b c), fun _ h => by dsimp only at h ⊢; rw [updN_eq]; omega, fun h => by omega, hs⟩, by dsimp only; omega⟩
    ·
     exfalso
     have := of_decide_eq_false h96
     omega
   ·
    obtain rfl : n1 = 0 := by have := of_decide_eq_false h86; omega
    obtain rfl := ndig_zero hn1
    refine W_exit ?_
    show W _ _ _ _ _ _
    refine W_sr ?_
    refine s_pu (p_move rfl) rfl ?_
    refine s_pu (p_nilCheck rfl) rfl ?_
    refine s_pu (p_field rfl) rfl ?_
    refine k_dnd (hs.cell .head) rfl rfl ?_
    refine s_pu (p_move rfl) rfl ?_
    refine s_pu (p_addI rfl rfl ?_) rfl ?_
    ·
     omega
    refine s_pu (p_nilCheck rfl) rfl ?_
    refine s_pu (p_field rfl) rfl ?_
    refine k_snd hs rfl rfl ?_
    intro _ hs
    refine WL_th ?_
    refine W_forget (Ext.cd 0 rfl (Ext.cd 4 rfl (Ext.nil _))) ?_
    refine W_join (fun e' w' => ∃ m : Nat, Ext e' (upd (upd emp 4 (.int .i64 e)) 0 (.pointer (some ⟨db, 0, none⟩))) ∧ St wI S w' [pt db 268 804 (dC x2 (m : Nat) dp ng tr2), hold R] ∧ 1 ≤ m ∧ m ≤ 800 ∧ m ≤ nd + e) ?_ ?_
    ·
     refine W_sr ?_
     refine s_pu (p_move rfl) rfl ?_
     refine s_pu (p_nilCheck rfl) rfl ?_
     refine s_pu (p_field rfl) rfl ?_
     refine k_dnd (hs.cell .head) rfl rfl ?_
     refine s_pu (p_geI rfl rfl) rfl ?_
     refine WL_th ?_
     refine W_if rfl (fun h123 => ?_) (fun h123 => ?_)
     ·
      have hbig := of_decide_eq_true h123
      refine W_reg ?_
      refine s_pu (p_move rfl) rfl ?_
      refine s_pu (p_nilCheck rfl) rfl ?_
      refine s_pu (p_field rfl) rfl ?_
      refine k_snd hs rfl rfl ?_
      intro _ hs
      refine WL_th ?_
      exact ⟨800, (Ext.cons rfl (Ext.cons rfl (Ext.nil _))), hs, by decide, Nat.le_refl _, by omega⟩
     ·
      have hbig := of_decide_eq_false h123
      refine W_skip_th ?_
      rw [show ((nd : Int) + (e : Int)) = ((nd + e : Nat) : Int) by simp] at hs
      exact ⟨nd + e, (Ext.cons rfl (Ext.cons rfl (Ext.nil _))), hs, by omega, by omega, Nat.le_refl _⟩
    ·
     rintro e3 w3 ⟨m, hx, hs, hm1, hm2, hm3⟩
     refine W_forget hx ?_
     clear hx
     refine W_sr ?_
     refine s_pu (p_move rfl) rfl ?_
     refine s_pu (p_nilCheck rfl) rfl ?_
     refine s_pu (p_field rfl) rfl ?_
     refine k_ddp (hs.cell .head) rfl rfl ?_
     refine s_pu (p_move rfl) rfl ?_
     refine s_pu (p_addI rfl rfl ?_) rfl ?_
     ·
      omega
     refine s_pu (p_nilCheck rfl) rfl ?_
     refine s_pu (p_field rfl) rfl ?_
     refine k_sdp hs rfl rfl ?_
     intro _ hs
     refine WL_th ?_
     refine W_reg ?_
     refine s_pu (p_move rfl) rfl ?_
     have hfin := left_final hy0 hy9 (p2 k) hC.d1 he1 he2 hC.pot hnd h1 (fun h => hlow h) (fun h => hlead h rfl) (fun h => (hdg 0 (Nat.zero_le _) (by omega) (by omega))) hx0
     refine k_spec [pt db 268 804 (dC x2 (m : Nat) (dp + (e : Int)) ng tr2)] (c_trim db x2 m (dp + (e : Int)) ng tr2 hm1 hm2 hfin.1) hs (.cons rfl .nil) rfl ?_
     rintro v136 _ _ ⟨m3, hm31, hm32, rfl⟩ hs
     refine WL_nil ?_
     refine end_none (fn := Tryz.f155) rfl ?_
     exact hs.spec ⟨x2, m3, dp + (e : Int), tr2, hm31, by omega, fun i hi => hdg i (Nat.zero_le _) (by omega) (by omega), hfin.1, by have := hfin.2; omega, by omega, by omega, rfl⟩
end Go.Proofs.YtmalghopogngoaaGreatDoor
set_option linter.unusedVariables false
set_option linter.unusedSimpArgs false
set_option maxRecDepth 4000
namespace Go.Proofs.YtmalghopogngoaaGreatDoor
open Go Go.RowKit MW
theorem c_shiftL (db k δ : Nat) (ds : List UInt8) (hC : Cheat k δ ds) (R : World → Prop) (hR : ∀ w, R w → GP w) (x : Nat → Int) (nd : Nat) (dp : Int) (ng tr : Bool) (hn1 : 1 ≤ nd) (hn2 : nd ≤ 800) (hd : Digs x nd) (hn0 : x 0 ≠ 48) (hp1 : -10000 ≤ dp) (hp2 : dp ≤ 10000) :
  MW.Spec Tryz.prog 149 [.pointer (some ⟨db, 0, none⟩), .int .i64 k].toArray [pt db 268 804 (dC x (nd : Nat) dp ng tr), hold R] fun v G => RiseL db k x dp ng R G := by
 intro wI S hsat
 have hs := St.start hsat
 have hck1 := hC.k1
 have hck2 := hC.k2
 refine calls_W (args := [_, _]) Tryz.func149 rfl Tryz.ntmps149 rfl ?_
 refine W_block ?_
 refine W_sr ?_
 refine s_pu (p_move rfl) rfl ?_
 refine s_pu (p_nilCheck rfl) rfl ?_
 refine s_pu (p_field rfl) rfl ?_
 refine k_dnd (hs.cell .head) rfl rfl ?_
 refine s_pu (p_eqI rfl rfl) rfl ?_
 refine s_pu (p_assign rfl) rfl ?_
 refine WL_th ?_
 refine W_if rfl (fun h0 => ?_) (fun h0 => ?_)
 ·
  exfalso
  have h1_ := eq_of_beq h0
  omega
 ·
  refine W_sr ?_
  refine s_pu (p_move rfl) rfl ?_
  refine s_pu (p_gtI rfl rfl) rfl ?_
  refine s_pu (p_assign rfl) rfl ?_
  refine WL_th ?_
  refine W_if rfl (fun h1 => ?_) (fun h1 => ?_)
  ·
   refine W_seq ?_
   refine W_block ?_
   refine W_loop (α := Nat) (fun q => (upd (upd emp 1 (.int .i64 k)) 0 (.pointer (some ⟨db, 0, none⟩)))) (fun q w => St wI S w [pt db 268 804 (dC x (nd : Nat) dp ng tr), hold R]) (fun q => q) 0 (Ext.cons rfl (Ext.cons rfl (Ext.nil _))) hs (fun q w hx => ?_)
   have hs := hx
   refine W_forget (e' := (upd (upd emp 1 (.int .i64 k)) 0 (.pointer (some ⟨db, 0, none⟩)))) (Ext.cons rfl (Ext.cons rfl (Ext.nil _))) ?_
   refine W_seq ?_
   refine W_sr ?_
   refine s_pu (p_move rfl) rfl ?_
   refine s_pu (p_gtI rfl rfl) rfl ?_
   refine WL_th ?_
   refine W_if rfl (fun h2 => ?_) (fun h2 => ?_)
   ·
    exfalso
    have := of_decide_eq_true h2
    omega
   ·
    refine W_exit ?_
    show W _ _ _ _ _ _
    refine W_reg ?_
    refine s_pu (p_move rfl) rfl ?_
    refine s_pu (p_move rfl) rfl ?_
    refine s_pu (p_convK (z := (k : Int)) rfl (wrU64 (by omega) (by omega))) rfl ?_
    refine k_spec [pt db 268 804 (dC x (nd : Nat) dp ng tr), hold R] (c_leftShift db k δ ds hC R hR x nd dp ng tr hn1 hn2 hd hn0 hp1 hp2) hs (.cons rfl (.cons rfl .nil)) rfl ?_
    rintro v22 _ _ ⟨x3, nd3, dp3, tr3, ha1, ha2, ha3, ha4, ha5, ha6, ha7, rfl⟩ hs
    refine WL_nil ?_
    refine end_none (fn := Tryz.f149) rfl ?_
    exact hs.spec ⟨x3, nd3, dp3, tr3, ha1, ha2, ha3, ha4, ha5, ha6, ha7, rfl⟩
  ·
   exfalso
   have := of_decide_eq_false h1
   omega
theorem c_shiftR (db k : Nat) (hk1 : 1 ≤ k) (hk2 : k ≤ 27) (x : Nat → Int) (nd : Nat) (dp : Int) (ng tr : Bool) (hn1 : 1 ≤ nd) (hn2 : nd ≤ 800) (hd : Digs x nd) (hn0 : x 0 ≠ 48) (hp1 : -10000 ≤ dp) (hp2 : dp ≤ 10000) :
  MW.Spec Tryz.prog 149 [.pointer (some ⟨db, 0, none⟩), .int .i64 (-(k : Int))].toArray [pt db 268 804 (dC x (nd : Nat) dp ng tr)] fun v G => FallR db k x dp ng G := by
 intro wI S hsat
 have hs := St.start hsat
 refine calls_W (args := [_, _]) Tryz.func149 rfl Tryz.ntmps149 rfl ?_
 refine W_block ?_
 refine W_sr ?_
 refine s_pu (p_move rfl) rfl ?_
 refine s_pu (p_nilCheck rfl) rfl ?_
 refine s_pu (p_field rfl) rfl ?_
 refine k_dnd (hs.cell .head) rfl rfl ?_
 refine s_pu (p_eqI rfl rfl) rfl ?_
 refine s_pu (p_assign rfl) rfl ?_
 refine WL_th ?_
 refine W_if rfl (fun h0 => ?_) (fun h0 => ?_)
 ·
  exfalso
  have h1_ := eq_of_beq h0
  omega
 ·
  refine W_sr ?_
  refine s_pu (p_move rfl) rfl ?_
  refine s_pu (p_gtI rfl rfl) rfl ?_
  refine s_pu (p_assign rfl) rfl ?_
  refine WL_th ?_
  refine W_if rfl (fun h1 => ?_) (fun h1 => ?_)
  ·
   exfalso
   have := of_decide_eq_true h1
   omega
  ·
   refine W_sr ?_
   refine s_pu (p_move rfl) rfl ?_
   refine s_pu (p_ltI rfl rfl) rfl ?_
   refine s_pu (p_assign rfl) rfl ?_
   refine WL_th ?_
   refine W_forget (Ext.cd 0 rfl (Ext.cd 1 rfl (Ext.cd 23 rfl (Ext.nil _)))) ?_
   refine W_if rfl (fun h2 => ?_) (fun h2 => ?_)
   ·
    refine W_seq ?_
    refine W_block ?_
    refine W_loop (α := Nat) (fun q => (upd (upd emp 1 (.int .i64 (-(k : Int)))) 0 (.pointer (some ⟨db, 0, none⟩)))) (fun q w => St wI S w [pt db 268 804 (dC x (nd : Nat) dp ng tr)]) (fun q => q) 0 (Ext.cons rfl (Ext.cons rfl (Ext.nil _))) hs (fun q w hx => ?_)
    have hs := hx
    refine W_forget (e' := (upd (upd emp 1 (.int .i64 (-(k : Int)))) 0 (.pointer (some ⟨db, 0, none⟩)))) (Ext.cons rfl (Ext.cons rfl (Ext.nil _))) ?_
    refine W_seq ?_
    refine W_sr ?_
    refine s_pu (p_move rfl) rfl ?_
    refine s_pu (p_ltI rfl rfl) rfl ?_
    refine WL_th ?_
    refine W_if rfl (fun h3 => ?_) (fun h3 => ?_)
    ·
     exfalso
     have := of_decide_eq_true h3
     omega
    ·
     refine W_exit ?_
     show W _ _ _ _ _ _
     refine W_reg ?_
     refine s_pu (p_move rfl) rfl ?_
     refine s_pu (p_move rfl) rfl ?_
     refine s_pu (p_negK (z := (k : Int)) rfl (by rw [wrI64 (by omega)]; omega)) rfl ?_
     refine s_pu (p_convK (z := (k : Int)) rfl (wrU64 (by omega) (by omega))) rfl ?_
     refine k_spec [pt db 268 804 (dC x (nd : Nat) dp ng tr)] (c_rightShift db k hk1 hk2 x nd dp ng tr hn1 hn2 hd hn0 hp1 hp2) hs (.cons rfl (.cons rfl .nil)) rfl ?_
     rintro v36 _ _ ⟨x3, nd3, dp3, tr3, ha1, ha2, ha3, ha4, ha5, ha6, ha7, rfl⟩ hs
     refine WL_nil ?_
     refine end_none (fn := Tryz.f149) rfl ?_
     exact hs.spec ⟨x3, nd3, dp3, tr3, ha1, ha2, ha3, ha4, ha5, ha6, ha7, rfl⟩
   ·
    exfalso
    have := of_decide_eq_false h2
    omega
end Go.Proofs.YtmalghopogngoaaGreatDoor
set_option linter.unusedVariables false
set_option linter.unusedSimpArgs false
set_option maxRecDepth 4000
namespace Go.Proofs.YtmalghopogngoaaGreatDoor
open Go Go.RowKit MW
theorem c_set (db : Nat) (s : ByteArray) (o p : Nat) (hF : FT s o p) :
  MW.Spec Tryz.prog 129 [.pointer (some ⟨db, 0, none⟩), .string s].toArray [pt db 268 804 (dC (fun _ => 0) (0 : Nat) 0 false false)] fun v G => v = .bool true ∧ ∃ (x : Nat → Int) (nd : Nat) (dp : Int) (ng : Bool), nd ≤ 30 ∧ Digs x nd ∧ (nd = 0 ∨ x 0 ≠ 48) ∧ -30 ≤ dp ∧ dp ≤ 30 ∧ G = [pt db 268 804 (dC x (nd : Nat) dp ng false)] := by
 intro wI S hsat
 have hs := St.start hsat
 have ho := hF.ho
 have hp1 := hF.hp
 have hsz := hF.hlt
 have hmax := hF.hmax
 have hd0 : bt s 0 = 45 ∧ o = 1 ∨ dig (bt s 0) := by
  rcases (show o = 0 ∨ o = 1 by omega) with h | h
  ·
   exact .inr (hF.hdig 0 (by omega) (by omega) (by omega))
  ·
   exact .inl ⟨hF.hsg h, h⟩
 refine calls_W (args := [_, _]) Tryz.func129 rfl Tryz.ntmps129 rfl ?_
 refine W_sr ?_
 refine s_pu (p_assign rfl) rfl ?_
 refine WL_th ?_
 refine W_sr ?_
 refine s_pu (p_assign rfl) rfl ?_
 refine WL_th ?_
 refine W_sr ?_
 refine s_pu (p_move rfl) rfl ?_
 refine s_pu (p_nilCheck rfl) rfl ?_
 refine s_pu (p_field rfl) rfl ?_
 refine k_sng hs rfl rfl ?_
 intro _ hs
 refine WL_th ?_
 refine W_sr ?_
 refine s_pu (p_move rfl) rfl ?_
 refine s_pu (p_nilCheck rfl) rfl ?_
 refine s_pu (p_field rfl) rfl ?_
 refine k_str hs rfl rfl ?_
 intro _ hs
 refine WL_th ?_
 refine W_seq ?_
 refine W_sr ?_
 refine s_pu (p_move rfl) rfl ?_
 refine s_pu (p_move rfl) rfl ?_
 refine s_pu (p_lenS (by kernel_rfl) rfl) rfl ?_
 refine s_pu (p_geI rfl rfl) rfl ?_
 refine WL_th ?_
 refine W_if rfl (fun h0 => ?_) (fun h0 => ?_)
 ·
  exfalso
  have := of_decide_eq_true h0
  omega
 ·
  refine W_skip_th ?_
  refine W_join (fun e' w' => ∃ ng : Bool, Ext e' (upd (upd (upd (upd emp 5 (.int .i64 o)) 4 (.bool false)) 1 (.string s)) 0 (.pointer (some ⟨db, 0, none⟩))) ∧ St wI S w' [pt db 268 804 (dC (fun _ => 0) (0 : Nat) 0 ng false)]) ?_ ?_
  ·
   refine W_sr ?_
   refine s_pu (p_move rfl) rfl ?_
   refine s_pu (p_move rfl) rfl ?_
   refine s_pu (p_indexB (i := 0) (by kernel_rfl) rfl rfl (by decide) (by show 0 < s.size; omega)) rfl ?_
   rw [show bt s (0 : Int).toNat = bt s 0 from rfl]
   refine WL_th ?_
   refine W_forget (Ext.cd 0 rfl (Ext.cd 1 rfl (Ext.cd 4 rfl (Ext.cd 5 rfl (Ext.cd 22 rfl (Ext.nil _)))))) ?_
   refine W_block ?_
   refine W_sr ?_
   refine s_pu (p_eqI rfl rfl) rfl ?_
   refine s_pu (p_assign rfl) rfl ?_
   refine WL_th ?_
   refine W_if rfl (fun h1 => ?_) (fun h1 => ?_)
   ·
    exfalso
    have h1 := eq_of_beq h1
    unfold dig at hd0
    omega
   ·
    refine W_sr ?_
    refine s_pu (p_eqI rfl rfl) rfl ?_
    refine s_pu (p_assign rfl) rfl ?_
    refine WL_th ?_
    refine W_if rfl (fun h2 => ?_) (fun h2 => ?_)
    ·
     have ho1 : o = 1 := by have h1 := eq_of_beq h2; unfold dig at hd0; omega
     refine W_sr ?_
     refine s_pu (p_move rfl) rfl ?_
     refine s_pu (p_addI rfl rfl ?_) rfl ?_
     ·
      omega
     refine s_pu (p_assign rfl) rfl ?_
     refine WL_th ?_
     refine W_reg ?_
     refine s_pu (p_move rfl) rfl ?_
     refine s_pu (p_nilCheck rfl) rfl ?_
     refine s_pu (p_field rfl) rfl ?_
     refine k_sng hs rfl rfl ?_
     intro _ hs
     refine WL_nil ?_
     show ∃ _, _
     subst ho1
     exact ⟨_, (Ext.cons rfl (Ext.cons rfl (Ext.cons rfl (Ext.cons rfl (Ext.nil _))))), hs⟩
    ·
     have ho1 : o = 0 := (show o = 0 ∨ o = 1 by omega).resolve_right (fun h1 => by rw [hF.hsg h1] at h2; exact absurd h2 (by decide))
     refine W_skip ?_
     show ∃ _, _
     subst ho1
     exact ⟨_, (Ext.cons rfl (Ext.cons rfl (Ext.cons rfl (Ext.cons rfl (Ext.nil _))))), hs⟩
  ·
   rintro e1 w1 ⟨ng, hx, hs⟩
   refine W_forget hx ?_
   clear hx
   refine W_sr ?_
   refine s_pu (p_assign rfl) rfl ?_
   refine WL_th ?_
   refine W_sr ?_
   refine s_pu (p_assign rfl) rfl ?_
   refine WL_th ?_
   refine W_seq ?_
   refine W_block ?_
   refine W_loop (α := Nat × (Nat → Int) × Nat × Int × Bool × Bool) (fun q => (upd (upd (upd (upd (upd (upd emp 7 (.bool q.2.2.2.2.2)) 6 (.bool q.2.2.2.2.1)) 5 (.int .i64 q.1)) 4 (.bool false)) 1 (.string s)) 0 (.pointer (some ⟨db, 0, none⟩)))) (fun q w => o ≤ q.1 ∧ q.1 ≤ s.size ∧ (q.2.2.1 ≤ q.1 ∧ Digs q.2.1 q.2.2.1 ∧ (q.2.2.1 = 0 ∨ q.2.1 0 ≠ 48) ∧ -(q.1 : Int) ≤ q.2.2.2.1 ∧ q.2.2.2.1 ≤ (q.1 : Int) ∧ (q.2.2.2.2.1 = true → o + p < q.1) ∧ (o + p < q.1 → q.2.2.2.2.1 = true) ∧ (o < q.1 → q.2.2.2.2.2 = true)) ∧ St wI S w [pt db 268 804 (dC q.2.1 (q.2.2.1 : Nat) q.2.2.2.1 ng false)]) (fun q => s.size - q.1) (o, fun _ => 0, 0, 0, false, false) (Ext.cons rfl (Ext.cons rfl (Ext.cons rfl (Ext.cons rfl (Ext.cons rfl (Ext.cons rfl (Ext.nil _))))))) ⟨Nat.le_refl _, by omega, ⟨Nat.zero_le _, fun i hi => absurd hi (Nat.not_lt_zero i), .inl rfl, by dsimp only; omega, by dsimp only; omega, fun h => (by cases h), fun h => (by dsimp only at h; omega), fun h => (by dsimp only at h; omega)⟩, hs⟩ (fun q w hx => ?_)
   obtain ⟨hi1, hi2, ⟨hf1, hf2, hf3, hf4, hf5, hf7, hf8, hf9⟩, hs⟩ := hx
   obtain ⟨i, x, nd, dp, sd, sg⟩ := q
   simp only at hi1 hi2 hf1 hf2 hf3 hf4 hf5 hf7 hf8 hf9 hs
   refine W_forget (e' := (upd (upd (upd (upd (upd (upd emp 7 (.bool sg)) 6 (.bool sd)) 5 (.int .i64 i)) 4 (.bool false)) 1 (.string s)) 0 (.pointer (some ⟨db, 0, none⟩)))) (Ext.cons rfl (Ext.cons rfl (Ext.cons rfl (Ext.cons rfl (Ext.cons rfl (Ext.cons rfl (Ext.nil _))))))) ?_
   refine W_seq ?_
   refine W_sr ?_
   refine s_pu (p_move rfl) rfl ?_
   refine s_pu (p_move rfl) rfl ?_
   refine s_pu (p_lenS (by kernel_rfl) rfl) rfl ?_
   refine s_pu (p_ltI rfl rfl) rfl ?_
   refine WL_th ?_
   refine W_if rfl (fun h3 => ?_) (fun h3 => ?_)
   ·
    have hlt : i < s.size := by have := of_decide_eq_true h3; omega
    have eit : ((i : Int)).toNat = i := Int.toNat_natCast i
    have hc : bt s i = 46 ∨ dig (bt s i) := (Classical.em (i = o + p)).elim (fun he => .inl (by rw [he]; exact hF.hdot)) (fun he => .inr (hF.hdig i hi1 hlt he))
    refine W_skip_th ?_
    refine W_join (fun e' w' => ∃ (x2 : Nat → Int) (nd2 : Nat) (dp2 : Int) (sd2 sg2 : Bool), Ext e' (upd (upd (upd (upd (upd (upd emp 7 (.bool sg2)) 6 (.bool sd2)) 5 (.int .i64 i)) 4 (.bool false)) 1 (.string s)) 0 (.pointer (some ⟨db, 0, none⟩))) ∧ St wI S w' [pt db 268 804 (dC x2 (nd2 : Nat) dp2 ng false)] ∧ (nd2 ≤ (i + 1) ∧ Digs x2 nd2 ∧ (nd2 = 0 ∨ x2 0 ≠ 48) ∧ -((i + 1 : Nat) : Int) ≤ dp2 ∧ dp2 ≤ ((i + 1 : Nat) : Int) ∧ (sd2 = true → o + p < (i + 1)) ∧ (o + p < (i + 1) → sd2 = true) ∧ (o < (i + 1) → sg2 = true))) ?_ ?_
    ·
     refine W_block ?_
     refine W_seq ?_
     refine W_block ?_
     refine W_sr ?_
     refine s_pu (p_move rfl) rfl ?_
     refine s_pu (p_move rfl) rfl ?_
     refine s_pu (p_indexB (i := (i : Int)) (by kernel_rfl) rfl rfl (by omega) (by omega)) rfl ?_
     rw [eit]
     refine s_pu (p_eqI rfl rfl) rfl ?_
     refine s_pu (p_assign rfl) rfl ?_
     refine WL_th ?_
     refine W_if rfl (fun h4 => ?_) (fun h4 => ?_)
     ·
      exfalso
      have h1 := eq_of_beq h4
      unfold dig at hc
      omega
     ·
      refine W_sr ?_
      refine s_pu (p_move rfl) rfl ?_
      refine s_pu (p_move rfl) rfl ?_
      refine s_pu (p_indexB (i := (i : Int)) (by kernel_rfl) rfl rfl (by omega) (by omega)) rfl ?_
      rw [eit]
      refine s_pu (p_eqI rfl rfl) rfl ?_
      refine s_pu (p_assign rfl) rfl ?_
      refine WL_th ?_
      refine W_forget (Ext.cd 0 rfl (Ext.cd 1 rfl (Ext.cd 4 rfl (Ext.cd 5 rfl (Ext.cd 6 rfl (Ext.cd 7 rfl (Ext.cd 45 rfl (Ext.nil _)))))))) ?_
      refine W_if rfl (fun h5 => ?_) (fun h5 => ?_)
      ·
       have hdp : i = o + p := Classical.byContradiction (fun he => by have h2 := hF.hdig i hi1 hlt he; have h1 := eq_of_beq h5; unfold dig at h2; omega)
       refine W_seq ?_
       refine W_sr ?_
       refine s_pu (p_move rfl) rfl ?_
       refine WL_th ?_
       refine W_if rfl (fun h6 => ?_) (fun h6 => ?_)
       ·
        exfalso
        have := hf7 h6
        omega
       ·
        refine W_skip_th ?_
        refine W_sr ?_
        refine s_pu (p_assign rfl) rfl ?_
        refine WL_th ?_
        refine W_sr ?_
        refine s_pu (p_move rfl) rfl ?_
        refine s_pu (p_move rfl) rfl ?_
        refine s_pu (p_nilCheck rfl) rfl ?_
        refine s_pu (p_field rfl) rfl ?_
        refine k_dnd (hs.cell .head) rfl rfl ?_
        refine s_pu (p_nilCheck rfl) rfl ?_
        refine s_pu (p_field rfl) rfl ?_
        refine k_sdp hs rfl rfl ?_
        intro _ hs
        refine WL_th ?_
        refine W_exit ?_
        show ∃ _, _
        refine ⟨x, nd, (nd : Int), true, sg, (Ext.cons rfl (Ext.cons rfl (Ext.cons rfl (Ext.cons rfl (Ext.cons rfl (Ext.cons rfl (Ext.nil _))))))), hs, ?_⟩
        exact ⟨by omega, hf2, hf3, by omega, by omega, fun _ => by omega, fun _ => rfl, fun _ => hf9 (by omega)⟩
      ·
       have hdg : dig (bt s i) := hc.resolve_left (fun h => by simp [h] at h5)
       have hnd : i ≠ o + p := fun h => by have h2 := hF.hdot; rw [← h] at h2; simp [h2] at h5
       have hdg2 := hdg
       unfold dig at hdg2
       refine W_sr ?_
       refine s_pu (p_move rfl) rfl ?_
       refine s_pu (p_move rfl) rfl ?_
       refine s_pu (p_indexB (i := (i : Int)) (by kernel_rfl) rfl rfl (by omega) (by omega)) rfl ?_
       rw [eit]
       refine s_pu (p_leI rfl rfl) rfl ?_
       refine s_pu (p_move rfl) rfl ?_
       refine WL_cutb 5 68 [0, 1, 4, 5, 6, 7] (fun b => b = true) ?_ ?_
       ·
        refine s_bool 63 rfl (fun hb63 => ?_) (fun hb63 => ?_)
        ·
         refine g_take rfl rfl rfl ?_
         refine s_pu (p_move rfl) rfl ?_
         refine g_take rfl rfl rfl ?_
         refine s_pu (p_move rfl) rfl ?_
         refine g_take rfl rfl rfl ?_
         refine s_pu (p_indexB (i := (i : Int)) (by kernel_rfl) rfl rfl (by omega) (by omega)) rfl ?_
         rw [eit]
         refine g_take rfl rfl rfl ?_
         refine s_pu (p_leI rfl rfl) rfl ?_
         refine s_pu (p_pickT rfl rfl) rfl ?_
         refine WL_th ⟨rfl, _, ?_, Ext.cons rfl (ext_kd rfl rfl (ext_kd rfl rfl (ext_kd rfl rfl (ext_kd rfl rfl (ext_kd rfl rfl (ext_kd rfl rfl ext_kn))))))⟩
         exact decide_eq_true (by omega)
        ·
         refine g_skip rfl rfl rfl rfl rfl ?_
         refine g_skip rfl rfl rfl rfl rfl ?_
         refine g_skip rfl rfl rfl rfl rfl ?_
         refine g_skip rfl rfl rfl rfl rfl ?_
         refine s_pu (p_pickF rfl rfl) rfl ?_
         refine WL_th ⟨rfl, _, ?_, Ext.cons rfl (ext_kd rfl rfl (ext_kd rfl rfl (ext_kd rfl rfl (ext_kd rfl rfl (ext_kd rfl rfl (ext_kd rfl rfl ext_kn))))))⟩
         exfalso; have h1 := of_decide_eq_false hb63; omega
       ·
        intro b68 hb68
        refine WL_forget (Ext.cd 0 rfl (Ext.cd 1 rfl (Ext.cd 4 rfl (Ext.cd 5 rfl (Ext.cd 6 rfl (Ext.cd 7 rfl (Ext.cd 68 rfl (Ext.nil _)))))))) ?_
        show WL _ _ _ (_ :: _) _ _ _
        refine s_pu (p_assign rfl) rfl ?_
        refine WL_th ?_
        refine W_true (congrArg (fun b => some (Value.bool b)) hb68) ?_
        refine W_sr ?_
        refine s_pu (p_assign rfl) rfl ?_
        refine WL_th ?_
        refine W_seq ?_
        refine W_sr ?_
        refine s_pu (p_move rfl) rfl ?_
        refine s_pu (p_move rfl) rfl ?_
        refine s_pu (p_indexB (i := (i : Int)) (by kernel_rfl) rfl rfl (by omega) (by omega)) rfl ?_
        rw [eit]
        refine s_pu (p_eqI rfl rfl) rfl ?_
        refine s_pu (p_move rfl) rfl ?_
        refine WL_cutb 6 79 [0, 1, 4, 5, 6, 7] (fun b => b = false → ¬ (nd = 0 ∧ bt s i = 48)) ?_ ?_
        ·
         refine s_bool 73 rfl (fun hb73 => ?_) (fun hb73 => ?_)
         ·
          refine g_take rfl rfl rfl ?_
          refine s_pu (p_move rfl) rfl ?_
          refine g_take rfl rfl rfl ?_
          refine s_pu (p_nilCheck rfl) rfl ?_
          refine g_take rfl rfl rfl ?_
          refine s_pu (p_field rfl) rfl ?_
          refine g_take rfl rfl rfl ?_
          refine k_dnd (hs.cell .head) rfl rfl ?_
          refine g_take rfl rfl rfl ?_
          refine s_pu (p_eqI rfl rfl) rfl ?_
          refine s_pu (p_pickT rfl rfl) rfl ?_
          refine WL_th ⟨rfl, _, ?_, Ext.cons rfl (ext_kd rfl rfl (ext_kd rfl rfl (ext_kd rfl rfl (ext_kd rfl rfl (ext_kd rfl rfl (ext_kd rfl rfl ext_kn))))))⟩
          exact fun h0 h1 => by rw [h1.1] at h0; cases h0
         ·
          refine g_skip rfl rfl rfl rfl rfl ?_
          refine g_skip rfl rfl rfl rfl rfl ?_
          refine g_skip rfl rfl rfl rfl rfl ?_
          refine g_skip rfl rfl rfl rfl rfl ?_
          refine g_skip rfl rfl rfl rfl rfl ?_
          refine s_pu (p_pickF rfl rfl) rfl ?_
          refine WL_th ⟨rfl, _, ?_, Ext.cons rfl (ext_kd rfl rfl (ext_kd rfl rfl (ext_kd rfl rfl (ext_kd rfl rfl (ext_kd rfl rfl (ext_kd rfl rfl ext_kn))))))⟩
          exact fun _ h1 => by rw [h1.2] at hb73; cases hb73
        ·
         intro b79 hb79
         refine WL_forget (Ext.cd 0 rfl (Ext.cd 1 rfl (Ext.cd 4 rfl (Ext.cd 5 rfl (Ext.cd 6 rfl (Ext.cd 7 rfl (Ext.cd 79 rfl (Ext.nil _)))))))) ?_
         show WL _ _ _ [] _ _ _
         refine WL_th ?_
         refine W_if rfl (fun h79 => ?_) (fun h79 => ?_)
         ·
          refine W_sr ?_
          refine s_pu (p_move rfl) rfl ?_
          refine s_pu (p_nilCheck rfl) rfl ?_
          refine s_pu (p_field rfl) rfl ?_
          refine k_ddp (hs.cell .head) rfl rfl ?_
          refine s_pu (p_subI rfl rfl ?_) rfl ?_
          ·
           omega
          refine s_pu (p_nilCheck rfl) rfl ?_
          refine s_pu (p_field rfl) rfl ?_
          refine k_sdp hs rfl rfl ?_
          intro _ hs
          refine WL_th ?_
          refine W_exit ?_
          show ∃ _, _
          refine ⟨x, nd, (dp - 1), sd, true, (Ext.cons rfl (Ext.cons rfl (Ext.cons rfl (Ext.cons rfl (Ext.cons rfl (Ext.cons rfl (Ext.nil _))))))), hs, ?_⟩
          exact ⟨by omega, hf2, hf3, by omega, by omega, fun h => by have := hf7 h; omega, fun h => hf8 (by omega), fun _ => rfl⟩
         ·
          have h79f := hb79 h79
          refine W_skip_th ?_
          refine W_seq ?_
          refine W_sr ?_
          refine s_pu (p_move rfl) rfl ?_
          refine s_pu (p_nilCheck rfl) rfl ?_
          refine s_pu (p_field rfl) rfl ?_
          refine k_dnd (hs.cell .head) rfl rfl ?_
          refine s_pu (p_ltI rfl rfl) rfl ?_
          refine WL_th ?_
          refine W_if rfl (fun h7 => ?_) (fun h7 => ?_)
          ·
           refine W_seq ?_
           refine h_start (S := fun w => ∃ y : Nat → Int, w.heap[db]? = some (.cells (mkA 804 (dC y (nd : Nat) dp ng false)) 268 (0, 0))) (ls := #[false, false, false, false, false, false, false, false, false, false, false, false]) (n := 12) (by kernel_rfl) (by kernel_rfl) ?_
           have hs := hs.drew
           refine h_pu 0 rfl (ls' := #[true, false, false, false, false, false, false, false, false, false, false, false]) (by kernel_rfl) (fun _ _ _ h => h) rfl ⟨_, hs.cell .head⟩ (p_move rfl) ?_
           refine h_pu 1 rfl (ls' := #[true, true, false, false, false, false, false, false, false, false, false, false]) (by kernel_rfl) (fun _ _ _ h => h) rfl ⟨_, hs.cell .head⟩ (p_move rfl) ?_
           refine h_pu 2 rfl (ls' := #[true, true, true, false, false, false, false, false, false, false, false, false]) (by kernel_rfl) (fun _ _ _ h => h) rfl ⟨_, hs.cell .head⟩ (p_nilCheck rfl) ?_
           refine h_pu 3 rfl (ls' := #[true, true, true, true, false, false, false, false, false, false, false, false]) (by kernel_rfl) (fun _ _ _ h => h) rfl ⟨_, hs.cell .head⟩ (p_field rfl) ?_
           refine h_take 4 rfl (ls' := #[true, true, true, true, true, false, false, false, false, false, false, false]) (by kernel_rfl) (fun _ _ _ h => h) rfl ⟨_, hs.cell .head⟩ (fun w hw => by obtain ⟨y, hw⟩ := hw; exact m_load1 rfl (pt_cell hw 800 (by decide))) ?_
           refine h_pu 5 rfl (ls' := #[true, true, true, true, true, true, false, false, false, false, false, false]) (by kernel_rfl) (fun _ _ _ h => h) rfl ⟨_, hs.cell .head⟩ (p_move rfl) ?_
           refine h_pu 6 rfl (ls' := #[true, true, true, true, true, true, true, false, false, false, false, false]) (by kernel_rfl) (fun _ _ _ h => h) rfl ⟨_, hs.cell .head⟩ (p_move rfl) ?_
           refine h_pu 7 rfl (ls' := #[true, true, true, true, true, true, true, true, false, false, false, false]) (by kernel_rfl) (fun _ _ _ h => h) rfl ⟨_, hs.cell .head⟩ (p_indexB (by kernel_rfl) rfl rfl ?_ ?_) ?_
           ·
            omega
           ·
            omega
           refine h_pu 8 rfl (ls' := #[true, true, true, true, true, true, true, true, true, false, false, false]) (by kernel_rfl) (fun _ _ _ h => h) rfl ⟨_, hs.cell .head⟩ (p_nilCheck rfl) ?_
           refine h_pu 9 rfl (ls' := #[true, true, true, true, true, true, true, true, true, true, false, false]) (by kernel_rfl) (fun _ _ _ h => h) rfl ⟨_, hs.cell .head⟩ (p_field rfl) ?_
           refine h_pu 10 rfl (ls' := #[true, true, true, true, true, true, true, true, true, true, true, false]) (by kernel_rfl) (fun _ _ _ h => h) rfl ⟨_, hs.cell .head⟩ (p_elemA rfl rfl ?_ ?_) ?_
           ·
            omega
           ·
            omega
           refine h_one 11 rfl (ls' := #[true, true, true, true, true, true, true, true, true, true, true, true]) (by kernel_rfl) ?_
           refine k_sx (i := (nd : Int)) hs rfl rfl (by omega) ?_
           intro _ hs
           rw [Int.toNat_natCast] at hs
           refine WL_th ⟨⟨_, hs.cell .head⟩, ?_⟩
           refine h_done (by kernel_rfl) ?_
           show W _ _ _ _ _ _
           refine W_forget (Ext.cd 0 rfl (Ext.cd 1 rfl (Ext.cd 4 rfl (Ext.cd 5 rfl (Ext.cd 6 rfl (Ext.cd 7 rfl (Ext.nil _))))))) ?_
           refine W_reg ?_
           refine s_pu (p_move rfl) rfl ?_
           refine s_pu (p_nilCheck rfl) rfl ?_
           refine s_pu (p_field rfl) rfl ?_
           refine k_dnd (hs.cell .head) rfl rfl ?_
           refine s_pu (p_addI rfl rfl ?_) rfl ?_
           ·
            omega
           refine s_pu (p_nilCheck rfl) rfl ?_
           refine s_pu (p_field rfl) rfl ?_
           refine k_snd hs rfl rfl ?_
           intro _ hs
           refine WL_th ?_
           refine W_exit ?_
           show ∃ _, _
           rw [show ((nd : Int) + 1) = ((nd + 1 : Nat) : Int) by simp] at hs
           refine ⟨(updN x nd ((bt s i : Nat) : Int)), (nd + 1), dp, sd, true, (Ext.cons rfl (Ext.cons rfl (Ext.cons rfl (Ext.cons rfl (Ext.cons rfl (Ext.cons rfl (Ext.nil _))))))), hs, ?_⟩
           exact ⟨by omega, fun j hj => (by by_cases he : j = nd <;> first | (rw [he, updN_eq]; omega) | (rw [updN_ne he]; exact hf2 j (by omega))), (.inr (by by_cases he : nd = 0 <;> first | (rw [he, updN_eq]; omega) | (rw [updN_ne (by omega)]; exact hf3.resolve_left he))), by omega, by omega, fun h => by have := hf7 h; omega, fun h => hf8 (by omega), fun _ => rfl⟩
          ·
           exfalso
           have := of_decide_eq_false h7
           omega
    ·
     rintro e2 w2 ⟨x2, nd2, dp2, sd2, sg2, hx, hs, hfx⟩
     refine W_forget hx ?_
     clear hx
     refine W_reg ?_
     refine s_pu (p_move rfl) rfl ?_
     refine s_pu (p_addI rfl rfl ?_) rfl ?_
     ·
      omega
     refine s_pu (p_assign rfl) rfl ?_
     refine WL_th ?_
     refine ⟨(i + 1, x2, nd2, dp2, sd2, sg2), (Ext.cons rfl (Ext.cons rfl (Ext.cons rfl (Ext.cons (by show some (Value.int .i64 ((i : Int) + 1)) = _; simp) (Ext.cons rfl (Ext.cons rfl (Ext.nil _))))))), ⟨by omega, by omega, hfx, hs⟩, by simp; omega⟩
   ·
    have hie : i = s.size := by have := of_decide_eq_false h3; omega
    refine W_exit ?_
    show W _ _ _ _ _ _
    refine W_seq ?_
    refine W_sr ?_
    refine s_pu (p_move rfl) rfl ?_
    refine s_pu (p_not rfl) rfl ?_
    refine WL_th ?_
    refine W_if rfl (fun h8 => ?_) (fun h8 => ?_)
    ·
     exfalso
     have hsg := hf9 (by omega)
     rw [hsg] at h8
     cases h8
    ·
     refine W_skip_th ?_
     refine W_seq ?_
     refine W_sr ?_
     refine s_pu (p_move rfl) rfl ?_
     refine s_pu (p_not rfl) rfl ?_
     refine WL_th ?_
     refine W_if rfl (fun h9 => ?_) (fun h9 => ?_)
     ·
      exfalso
      have hsd := hf8 (by omega)
      rw [hsd] at h9
      cases h9
     ·
      refine W_skip_th ?_
      refine W_seq ?_
      refine W_sr ?_
      refine s_pu (p_move rfl) rfl ?_
      refine s_pu (p_move rfl) rfl ?_
      refine s_pu (p_lenS (by kernel_rfl) rfl) rfl ?_
      refine s_pu (p_ltI rfl rfl) rfl ?_
      refine s_pu (p_move rfl) rfl ?_
      refine WL_cutb 6 138 [0, 1, 4, 5] (fun b => b = false) ?_ ?_
      ·
       refine s_bool 132 rfl (fun hb132 => ?_) (fun hb132 => ?_)
       ·
        exfalso
        have h1 := of_decide_eq_true hb132
        omega
       ·
        refine g_skip rfl rfl rfl rfl rfl ?_
        refine g_skip rfl rfl rfl rfl rfl ?_
        refine g_skip rfl rfl rfl rfl rfl ?_
        refine g_skip rfl rfl rfl rfl rfl ?_
        refine g_skip rfl rfl rfl rfl rfl ?_
        refine s_pu (p_pickF rfl rfl) rfl ?_
        refine WL_th ⟨rfl, _, ?_, Ext.cons rfl (ext_kd rfl rfl (ext_kd rfl rfl (ext_kd rfl rfl (ext_kd rfl rfl ext_kn))))⟩
        rfl
      ·
       intro b138 hb138
       refine WL_forget (Ext.cd 0 rfl (Ext.cd 1 rfl (Ext.cd 4 rfl (Ext.cd 5 rfl (Ext.cd 138 rfl (Ext.nil _)))))) ?_
       show WL _ _ _ [] _ _ _
       refine WL_th ?_
       refine W_false (congrArg (fun b => some (Value.bool b)) hb138) ?_
       refine W_skip_th ?_
       refine W_seq ?_
       refine W_sr ?_
       refine s_pu (p_move rfl) rfl ?_
       refine s_pu (p_move rfl) rfl ?_
       refine s_pu (p_lenS (by kernel_rfl) rfl) rfl ?_
       refine s_pu (p_neI rfl rfl) rfl ?_
       refine WL_th ?_
       refine W_if rfl (fun h10 => ?_) (fun h10 => ?_)
       ·
        exfalso
        have := h10
        rw [hie] at this
        simp at this
       ·
        refine W_skip_th ?_
        refine W_sr ?_
        refine s_pu (p_assign rfl) rfl ?_
        refine WL_th ?_
        refine W_ret ?_
        refine ret_tmp (fn := Tryz.f129) rfl rfl ?_
        exact hs.spec ⟨rfl, x, nd, dp, ng, by omega, hf2, hf3, by omega, by omega, rfl⟩
end Go.Proofs.YtmalghopogngoaaGreatDoor
set_option linter.unusedVariables false
set_option linter.unusedSimpArgs false
set_option maxRecDepth 4000
namespace Go.Proofs.YtmalghopogngoaaGreatDoor
open Go Go.RowKit MW
theorem rows_ok : ([1, 3, 6, 9, 13, 16, 19, 23, 26, 27, 53].all rowOK) = true := by decide +kernel
theorem row_ok {k : Nat} (h : k ∈ [1, 3, 6, 9, 13, 16, 19, 23, 26, 27, 53]) : rowOK k = true := List.all_eq_true.1 rows_ok k h
theorem row27 : rowOK 27 = true := row_ok (by decide)
theorem row53 : rowOK 53 = true := row_ok (by decide)
theorem pow_row (i : Nat) (h : i < 9) : ∃ k : Nat, powL[i]? = some (k : Int) ∧ 1 ≤ k ∧ k ≤ 27 ∧ rowOK k = true := by
 have h' : i = 0 ∨ i = 1 ∨ i = 2 ∨ i = 3 ∨ i = 4 ∨ i = 5 ∨ i = 6 ∨ i = 7 ∨ i = 8 := by omega
 rcases h' with rfl | rfl | rfl | rfl | rfl | rfl | rfl | rfl | rfl
 ·
  exact ⟨1, rfl, by decide, by decide, row_ok (by decide)⟩
 ·
  exact ⟨3, rfl, by decide, by decide, row_ok (by decide)⟩
 ·
  exact ⟨6, rfl, by decide, by decide, row_ok (by decide)⟩
 ·
  exact ⟨9, rfl, by decide, by decide, row_ok (by decide)⟩
 ·
  exact ⟨13, rfl, by decide, by decide, row_ok (by decide)⟩
 ·
  exact ⟨16, rfl, by decide, by decide, row_ok (by decide)⟩
 ·
  exact ⟨19, rfl, by decide, by decide, row_ok (by decide)⟩
 ·
  exact ⟨23, rfl, by decide, by decide, row_ok (by decide)⟩
 ·
  exact ⟨26, rfl, by decide, by decide, row_ok (by decide)⟩
theorem c_floatBits (db : Nat) (R : World → Prop) (hR : ∀ w, R w → GP w) (xa : Nat → Int) (na : Nat) (pa : Int) (ng : Bool) (hn2 : na ≤ 30) (hd : Digs xa na) (hn0 : na = 0 ∨ xa 0 ≠ 48) (hp1 : -30 ≤ pa) (hp2 : pa ≤ 30) :
  MW.Spec Tryz.prog 130 [.pointer (some ⟨db, 0, none⟩), .pointer (some ⟨5, 0, none⟩)].toArray [pt db 268 804 (dC xa (na : Nat) pa ng false), hold R] fun v G => (∃ n : Int, v = .tuple #[.int .u64 n, .bool false]) ∧ ∃ f, G = [pt db 268 804 f, hold R] := by
 intro wI S hsat
 have hs := St.start hsat
 refine calls_W (args := [_, _]) Tryz.func130 rfl Tryz.ntmps130 rfl ?_
 refine W_sr ?_
 refine s_pu (p_assign rfl) rfl ?_
 refine s_pu (p_assign rfl) rfl ?_
 refine WL_th ?_
 refine W_scopeJ 0 (fun e' w' => ∃ (x3 : Nat → Int) (nd3 dp3 : Int) (tr3 : Bool) (n3 ex3 : Int), Ext e' (upd (upd (upd (upd (upd emp 7 (.int .u64 n3)) 6 (.int .i64 ex3)) 5 (.bool false)) 1 (.pointer (some ⟨5, 0, none⟩))) 0 (.pointer (some ⟨db, 0, none⟩))) ∧ -1023 ≤ ex3 ∧ ex3 ≤ 900 ∧ St wI S w' [pt db 268 804 (dC x3 nd3 dp3 ng tr3), hold R]) rfl ?_ ?_
 ·
  refine W_sr ?_
  refine s_pu (p_assign rfl) rfl ?_
  refine WL_th ?_
  refine W_sr ?_
  refine s_pu (p_assign rfl) rfl ?_
  refine WL_th ?_
  refine W_seq ?_
  refine W_sr ?_
  refine s_pu (p_move rfl) rfl ?_
  refine s_pu (p_nilCheck rfl) rfl ?_
  refine s_pu (p_field rfl) rfl ?_
  refine k_dnd (hs.cell .head) rfl rfl ?_
  refine s_pu (p_eqI rfl rfl) rfl ?_
  refine WL_th ?_
  refine W_if rfl (fun h16 => ?_) (fun h16 => ?_)
  ·
   refine W_sr ?_
   refine s_pu (p_assign rfl) rfl ?_
   refine WL_th ?_
   refine W_sr ?_
   refine s_pu (p_move rfl) rfl ?_
   refine s_pu (p_nilCheck rfl) rfl ?_
   refine s_pu (p_field rfl) rfl ?_
   refine kc_ldv (a := ⟨5, 0 + 2, none⟩) (hR _ (hs.now .t1)).bias rfl rfl rfl ?_
   refine s_pu (p_assign rfl) rfl ?_
   refine WL_th ?_
   refine W_goto ?_
   refine th_goto ?_
   refine sj_goto ?_
   exact ⟨_, _, _, _, _, _, (Ext.cons rfl (Ext.cons rfl (Ext.cons rfl (Ext.cons rfl (Ext.cons rfl (Ext.nil _)))))), by decide, by decide, hs⟩
  ·
   have hna : na ≠ 0 := fun h => by subst h; exact absurd h16 (by decide)
   have hxa := hn0.resolve_left hna
   have hxd := hd 0 (by omega)
   refine W_skip_th ?_
   refine W_seq ?_
   refine W_sr ?_
   refine s_pu (p_move rfl) rfl ?_
   refine s_pu (p_nilCheck rfl) rfl ?_
   refine s_pu (p_field rfl) rfl ?_
   refine k_ddp (hs.cell .head) rfl rfl ?_
   refine s_pu (p_gtI rfl rfl) rfl ?_
   refine WL_th ?_
   refine W_forget (Ext.cd 0 rfl (Ext.cd 1 rfl (Ext.cd 5 rfl (Ext.cd 25 rfl (Ext.nil _))))) ?_
   refine W_if rfl (fun h0 => ?_) (fun h0 => ?_)
   ·
    exfalso
    have := of_decide_eq_true h0
    omega
   ·
    refine W_skip_th ?_
    refine W_seq ?_
    refine W_sr ?_
    refine s_pu (p_move rfl) rfl ?_
    refine s_pu (p_nilCheck rfl) rfl ?_
    refine s_pu (p_field rfl) rfl ?_
    refine k_ddp (hs.cell .head) rfl rfl ?_
    refine s_pu (p_ltI rfl rfl) rfl ?_
    refine WL_th ?_
    refine W_if rfl (fun h1 => ?_) (fun h1 => ?_)
    ·
     exfalso
     have := of_decide_eq_true h1
     omega
    ·
     refine W_skip_th ?_
     refine W_sr ?_
     refine s_pu (p_assign rfl) rfl ?_
     refine WL_th ?_
     refine W_seq ?_
     refine W_block ?_
     refine W_loop (α := (Nat → Int) × Nat × Int × Bool × Int) (fun q => (upd (upd (upd (upd emp 6 (.int .i64 q.2.2.2.2)) 5 (.bool false)) 1 (.pointer (some ⟨5, 0, none⟩))) 0 (.pointer (some ⟨db, 0, none⟩)))) (fun q w => (1 ≤ q.2.1 ∧ q.2.1 ≤ 800 ∧ Digs q.1 q.2.1 ∧ q.1 0 ≠ 48 ∧ -30 ≤ q.2.2.1 ∧ q.2.2.1 ≤ 30) ∧ (0 ≤ q.2.2.2.2 ∧ q.2.2.2.2 + 14 * q.2.2.1 + q.1 0 ≤ 500) ∧ St wI S w [pt db 268 804 (dC q.1 (q.2.1 : Nat) q.2.2.1 ng q.2.2.2.1), hold R]) (fun q => (14 * q.2.2.1 + q.1 0 + 1000).toNat) (xa, na, pa, false, 0) (Ext.cons rfl (Ext.cons rfl (Ext.cons rfl (Ext.cons rfl (Ext.nil _))))) ⟨⟨by dsimp only; omega, by dsimp only; omega, hd, hxa, hp1, hp2⟩, ⟨Int.le_refl 0, by dsimp only; omega⟩, hs⟩ (fun q w hx => ?_)
     obtain ⟨⟨hi1, hi2, hi3, hi4, hi5, hi6⟩, ⟨hj1, hj2⟩, hs⟩ := hx
     obtain ⟨x, nd, dp, tr, ex⟩ := q
     simp only at hi1 hi2 hi3 hi4 hi5 hi6 hj1 hj2 hs
     refine W_forget (e' := (upd (upd (upd (upd emp 6 (.int .i64 ex)) 5 (.bool false)) 1 (.pointer (some ⟨5, 0, none⟩))) 0 (.pointer (some ⟨db, 0, none⟩)))) (Ext.cons rfl (Ext.cons rfl (Ext.cons rfl (Ext.cons rfl (Ext.nil _))))) ?_
     have hx0 := hi3 0 (by omega)
     refine W_seq ?_
     refine W_sr ?_
     refine s_pu (p_move rfl) rfl ?_
     refine s_pu (p_nilCheck rfl) rfl ?_
     refine s_pu (p_field rfl) rfl ?_
     refine k_ddp (hs.cell .head) rfl rfl ?_
     refine s_pu (p_gtI rfl rfl) rfl ?_
     refine WL_th ?_
     refine W_if rfl (fun h39 => ?_) (fun h39 => ?_)
     ·
      have hpos := of_decide_eq_true h39
      refine W_skip_th ?_
      refine W_block ?_
      refine W_sr ?_
      refine s_pu (p_assign rfl) rfl ?_
      refine WL_th ?_
      refine W_join (fun e' w' => ∃ k : Nat, Ext e' (upd (upd (upd (upd (upd emp 8 (.int .i64 k)) 6 (.int .i64 ex)) 5 (.bool false)) 1 (.pointer (some ⟨5, 0, none⟩))) 0 (.pointer (some ⟨db, 0, none⟩))) ∧ 1 ≤ k ∧ k ≤ 27 ∧ St wI S w' [pt db 268 804 (dC x (nd : Nat) dp ng tr), hold R]) ?_ ?_
      ·
       refine W_seq ?_
       refine h_start (S := fun w => w.heap[db]? = some (.cells (mkA 804 (dC x (nd : Nat) dp ng tr)) 268 (0, 0))) (ls := #[false, false, false, false, false, false, false]) (n := 7) (by kernel_rfl) (by kernel_rfl) ?_
       have hs := hs.drew
       refine h_pu 0 rfl (ls' := #[true, false, false, false, false, false, false]) (by kernel_rfl) (fun _ _ _ h => h) rfl (hs.cell .head) (p_move rfl) ?_
       refine h_pu 1 rfl (ls' := #[true, true, false, false, false, false, false]) (by kernel_rfl) (fun _ _ _ h => h) rfl (hs.cell .head) (p_nilCheck rfl) ?_
       refine h_pu 2 rfl (ls' := #[true, true, true, false, false, false, false]) (by kernel_rfl) (fun _ _ _ h => h) rfl (hs.cell .head) (p_field rfl) ?_
       refine h_take 3 rfl (ls' := #[true, true, true, true, false, false, false]) (by kernel_rfl) (fun _ _ _ h => h) rfl (hs.cell .head) (fun w hw => m_load1 rfl (pt_cell hw 801 (by decide))) ?_
       refine h_one 4 rfl (ls' := #[true, true, true, true, true, false, false]) (by kernel_rfl) ?_
       obtain ⟨b8, o8, c8, hp8, hq8⟩ := (hR _ (hs.now .t1)).pow
       refine kc_ldv hp8 rfl rfl rfl ?_
       refine WL_th ⟨(hs.cell .head), ?_⟩
       refine h_pu 5 rfl (ls' := #[true, true, true, true, true, true, false]) (by kernel_rfl) (fun _ _ _ h => h) rfl (hs.cell .head) (p_lenL rfl) ?_
       refine h_pu 6 rfl (ls' := #[true, true, true, true, true, true, true]) (by kernel_rfl) (fun _ _ _ h => h) rfl (hs.cell .head) (p_geI rfl rfl) ?_
       refine h_done (by kernel_rfl) ?_
       show W _ _ _ _ _ _
       refine W_forget (Ext.cd 0 rfl (Ext.cd 1 rfl (Ext.cd 5 rfl (Ext.cd 6 rfl (Ext.cd 46 rfl (Ext.nil _)))))) ?_
       refine W_if rfl (fun h46 => ?_) (fun h46 => ?_)
       ·
        refine W_reg ?_
        refine s_pu (p_assign rfl) rfl ?_
        refine WL_th ?_
        exact ⟨27, (Ext.cons rfl (Ext.cons rfl (Ext.cons rfl (Ext.cons rfl (Ext.cons rfl (Ext.nil _)))))), by decide, by decide, hs⟩
       ·
        have hlt9 := of_decide_eq_false h46
        refine h_start (S := fun w => w.heap[db]? = some (.cells (mkA 804 (dC x (nd : Nat) dp ng tr)) 268 (0, 0))) (ls := #[false, false, false, false, false, false, false, false]) (n := 8) (by kernel_rfl) (by kernel_rfl) ?_
        have hs := hs.drew
        refine h_pu 1 rfl (ls' := #[false, true, false, false, false, false, false, false]) (by kernel_rfl) (fun _ _ _ h => h) rfl (hs.cell .head) (p_move rfl) ?_
        refine h_pu 2 rfl (ls' := #[false, true, true, false, false, false, false, false]) (by kernel_rfl) (fun _ _ _ h => h) rfl (hs.cell .head) (p_nilCheck rfl) ?_
        refine h_pu 3 rfl (ls' := #[false, true, true, true, false, false, false, false]) (by kernel_rfl) (fun _ _ _ h => h) rfl (hs.cell .head) (p_field rfl) ?_
        refine h_take 4 rfl (ls' := #[false, true, true, true, true, false, false, false]) (by kernel_rfl) (fun _ _ _ h => h) rfl (hs.cell .head) (fun w hw => m_load1 rfl (pt_cell hw 801 (by decide))) ?_
        refine h_one 0 rfl (ls' := #[true, true, true, true, true, false, false, false]) (by kernel_rfl) ?_
        obtain ⟨b9, o9, c9, hp9, hq9⟩ := (hR _ (hs.now .t1)).pow
        obtain ⟨k, hk0, hk1, hk2, hk3⟩ := pow_row dp.toNat (by omega)
        refine kc_ldv hp9 rfl rfl rfl ?_
        refine WL_th ⟨(hs.cell .head), ?_⟩
        refine h_pu 5 rfl (ls' := #[true, true, true, true, true, true, false, false]) (by kernel_rfl) (fun _ _ _ h => h) rfl (hs.cell .head) (p_elem (i := dp) rfl rfl (by omega) (by omega)) ?_
        refine h_one 6 rfl (ls' := #[true, true, true, true, true, true, true, false]) (by kernel_rfl) ?_
        refine kc_ldv (a := ⟨b9, o9 + dp.toNat * 1, none⟩) (hq9 _ _ hk0) rfl rfl rfl ?_
        refine WL_th ⟨(hs.cell .head), ?_⟩
        refine h_pu 7 rfl (ls' := #[true, true, true, true, true, true, true, true]) (by kernel_rfl) (fun _ _ _ h => h) rfl (hs.cell .head) (p_assign rfl) ?_
        refine h_done (by kernel_rfl) ?_
        show ∃ _, _
        exact ⟨k, (Ext.cons rfl (Ext.cons rfl (Ext.cons rfl (Ext.cons rfl (Ext.cons rfl (Ext.nil _)))))), hk1, hk2, hs⟩
      ·
       rintro e2 w2 ⟨k, hx, hk1, hk2, hs⟩
       refine W_forget hx ?_
       clear hx
       refine W_sr ?_
       refine s_pu (p_move rfl) rfl ?_
       refine s_pu (p_move rfl) rfl ?_
       refine s_pu (p_negK (z := -(k : Int)) rfl (by rw [wrI64 (by omega)]; omega)) rfl ?_
       refine k_spec [pt db 268 804 (dC x (nd : Nat) dp ng tr)] (c_shiftR db k hk1 hk2 x nd dp ng tr hi1 hi2 hi3 hi4 (by omega) (by omega)) hs (.cons rfl (.cons rfl .nil)) rfl ?_
       rintro v57 _ _ ⟨x2, nd2, dp2, tr2, hb1, hb2, hb3, hb4, hb5, hb6, hb7, rfl⟩ hs
       have hx2 := hb3 0 (by omega)
       refine WL_th ?_
       refine W_reg ?_
       refine s_pu (p_move rfl) rfl ?_
       refine s_pu (p_move rfl) rfl ?_
       refine s_pu (p_addI rfl rfl ?_) rfl ?_
       ·
        omega
       refine s_pu (p_assign rfl) rfl ?_
       refine WL_nil ?_
       show ∃ _, _
       refine ⟨(x2, nd2, dp2, tr2, ex + (k : Int)), (Ext.cons rfl (Ext.cons rfl (Ext.cons rfl (Ext.cons rfl (Ext.nil _))))), ⟨⟨hb1, hb2, hb3, hb4, by dsimp only; omega, by dsimp only; omega⟩, ⟨by dsimp only; omega, by dsimp only; omega⟩, hs⟩, by dsimp only; omega⟩
     ·
      refine W_exit ?_
      show W _ _ _ _ _ _
      refine W_seq ?_
      refine W_block ?_
      refine W_loop (α := (Nat → Int) × Nat × Int × Bool × Int) (fun q => (upd (upd (upd (upd emp 6 (.int .i64 q.2.2.2.2)) 5 (.bool false)) 1 (.pointer (some ⟨5, 0, none⟩))) 0 (.pointer (some ⟨db, 0, none⟩)))) (fun q w => (1 ≤ q.2.1 ∧ q.2.1 ≤ 800 ∧ Digs q.1 q.2.1 ∧ q.1 0 ≠ 48 ∧ -30 ≤ q.2.2.1 ∧ q.2.2.1 ≤ 30) ∧ (q.2.2.2.2 ≤ 900 ∧ -400 ≤ q.2.2.2.2 + 14 * q.2.2.1 + q.1 0) ∧ St wI S w [pt db 268 804 (dC q.1 (q.2.1 : Nat) q.2.2.1 ng q.2.2.2.1), hold R]) (fun q => (500 - (14 * q.2.2.1 + q.1 0)).toNat) (x, nd, dp, tr, ex) (Ext.cons rfl (Ext.cons rfl (Ext.cons rfl (Ext.cons rfl (Ext.nil _))))) ⟨⟨hi1, hi2, hi3, hi4, hi5, hi6⟩, ⟨by dsimp only; omega, by dsimp only; omega⟩, hs⟩ (fun q w hx => ?_)
      obtain ⟨⟨hi1, hi2, hi3, hi4, hi5, hi6⟩, ⟨hj1, hj2⟩, hs⟩ := hx
      obtain ⟨x, nd, dp, tr, ex⟩ := q
      simp only at hi1 hi2 hi3 hi4 hi5 hi6 hj1 hj2 hs
      refine W_forget (e' := (upd (upd (upd (upd emp 6 (.int .i64 ex)) 5 (.bool false)) 1 (.pointer (some ⟨5, 0, none⟩))) 0 (.pointer (some ⟨db, 0, none⟩)))) (Ext.cons rfl (Ext.cons rfl (Ext.cons rfl (Ext.cons rfl (Ext.nil _))))) ?_
      have hx0 := hi3 0 (by omega)
      refine W_seq ?_
      refine W_sr ?_
      refine s_pu (p_move rfl) rfl ?_
      refine s_pu (p_nilCheck rfl) rfl ?_
      refine s_pu (p_field rfl) rfl ?_
      refine k_ddp (hs.cell .head) rfl rfl ?_
      refine s_pu (p_ltI rfl rfl) rfl ?_
      refine s_pu (p_move rfl) rfl ?_
      refine WL_cutb 14 80 [0, 1, 5, 6] (fun b => b = true → dp ≤ 0) ?_ ?_
      ·
       refine s_bool 66 rfl (fun hb66 => ?_) (fun hb66 => ?_)
       ·
        refine g_skip rfl rfl rfl rfl rfl ?_
        refine g_skip rfl rfl rfl rfl rfl ?_
        refine g_skip rfl rfl rfl rfl rfl ?_
        refine g_skip rfl rfl rfl rfl rfl ?_
        refine g_skip rfl rfl rfl rfl rfl ?_
        refine g_skip rfl rfl rfl rfl rfl ?_
        refine g_skipU rfl rfl rfl rfl ?_
        refine g_skipU rfl rfl rfl rfl ?_
        refine g_skipU rfl rfl rfl rfl ?_
        refine g_skipU rfl rfl rfl rfl ?_
        refine g_skipU rfl rfl rfl rfl ?_
        refine g_skipU rfl rfl rfl rfl ?_
        refine g_skip rfl rfl rfl rfl rfl ?_
        refine s_pu (p_pickT rfl rfl) rfl ?_
        refine WL_th ⟨rfl, _, ?_, Ext.cons rfl (ext_kd rfl rfl (ext_kd rfl rfl (ext_kd rfl rfl (ext_kd rfl rfl ext_kn))))⟩
        exact fun _ => by have := of_decide_eq_true hb66; omega
       ·
        refine g_take rfl rfl rfl ?_
        refine s_pu (p_move rfl) rfl ?_
        refine g_take rfl rfl rfl ?_
        refine s_pu (p_nilCheck rfl) rfl ?_
        refine g_take rfl rfl rfl ?_
        refine s_pu (p_field rfl) rfl ?_
        refine g_take rfl rfl rfl ?_
        refine k_ddp (hs.cell .head) rfl rfl ?_
        refine g_take rfl rfl rfl ?_
        refine s_pu (p_eqI rfl rfl) rfl ?_
        refine g_take rfl rfl rfl ?_
        refine s_pu (p_move rfl) rfl ?_
        refine s_bool 72 rfl (fun hb72 => ?_) (fun hb72 => ?_)
        ·
         refine g_take rfl rfl rfl ?_
         refine s_pu (p_move rfl) rfl ?_
         refine g_take rfl rfl rfl ?_
         refine s_pu (p_nilCheck rfl) rfl ?_
         refine g_take rfl rfl rfl ?_
         refine s_pu (p_field rfl) rfl ?_
         refine g_take rfl rfl rfl ?_
         refine s_pu (p_elemA rfl rfl ?_ ?_) rfl ?_
         ·
          decide
         ·
          omega
         refine g_take rfl rfl rfl ?_
         refine k_dx (hs.cell .head) rfl (by omega) rfl ?_
         refine g_take rfl rfl rfl ?_
         refine s_pu (p_ltI rfl rfl) rfl ?_
         refine g_take rfl rfl rfl ?_
         refine s_pu (p_pickT rfl rfl) rfl ?_
         refine s_pu (p_pickF rfl rfl) rfl ?_
         refine WL_th ⟨rfl, _, ?_, Ext.cons rfl (ext_kd rfl rfl (ext_kd rfl rfl (ext_kd rfl rfl (ext_kd rfl rfl ext_kn))))⟩
         exact fun _ => by have := eq_of_beq hb72; omega
        ·
         refine g_skip rfl rfl rfl rfl rfl ?_
         refine g_skip rfl rfl rfl rfl rfl ?_
         refine g_skip rfl rfl rfl rfl rfl ?_
         refine g_skip rfl rfl rfl rfl rfl ?_
         refine g_skip rfl rfl rfl rfl rfl ?_
         refine g_skip rfl rfl rfl rfl rfl ?_
         refine g_take rfl rfl rfl ?_
         refine s_pu (p_pickF rfl rfl) rfl ?_
         refine s_pu (p_pickF rfl rfl) rfl ?_
         refine WL_th ⟨rfl, _, ?_, Ext.cons rfl (ext_kd rfl rfl (ext_kd rfl rfl (ext_kd rfl rfl (ext_kd rfl rfl ext_kn))))⟩
         exact fun h => by cases h
      ·
       intro b80 hb80
       refine WL_forget (Ext.cd 0 rfl (Ext.cd 1 rfl (Ext.cd 5 rfl (Ext.cd 6 rfl (Ext.cd 80 rfl (Ext.nil _)))))) ?_
       show WL _ _ _ [] _ _ _
       refine WL_th ?_
       refine W_if rfl (fun h80 => ?_) (fun h80 => ?_)
       ·
        have hneg := hb80 h80
        refine W_skip_th ?_
        refine W_block ?_
        refine W_sr ?_
        refine s_pu (p_assign rfl) rfl ?_
        refine WL_th ?_
        refine W_join (fun e' w' => ∃ k : Nat, Ext e' (upd (upd (upd (upd (upd emp 9 (.int .i64 k)) 6 (.int .i64 ex)) 5 (.bool false)) 1 (.pointer (some ⟨5, 0, none⟩))) 0 (.pointer (some ⟨db, 0, none⟩))) ∧ 1 ≤ k ∧ k ≤ 27 ∧ rowOK k = true ∧ St wI S w' [pt db 268 804 (dC x (nd : Nat) dp ng tr), hold R]) ?_ ?_
        ·
         refine W_seq ?_
         refine h_start (S := fun w => w.heap[db]? = some (.cells (mkA 804 (dC x (nd : Nat) dp ng tr)) 268 (0, 0))) (ls := #[false, false, false, false, false, false, false, false]) (n := 8) (by kernel_rfl) (by kernel_rfl) ?_
         have hs := hs.drew
         refine h_pu 0 rfl (ls' := #[true, false, false, false, false, false, false, false]) (by kernel_rfl) (fun _ _ _ h => h) rfl (hs.cell .head) (p_move rfl) ?_
         refine h_pu 1 rfl (ls' := #[true, true, false, false, false, false, false, false]) (by kernel_rfl) (fun _ _ _ h => h) rfl (hs.cell .head) (p_nilCheck rfl) ?_
         refine h_pu 2 rfl (ls' := #[true, true, true, false, false, false, false, false]) (by kernel_rfl) (fun _ _ _ h => h) rfl (hs.cell .head) (p_field rfl) ?_
         refine h_take 3 rfl (ls' := #[true, true, true, true, false, false, false, false]) (by kernel_rfl) (fun _ _ _ h => h) rfl (hs.cell .head) (fun w hw => m_load1 rfl (pt_cell hw 801 (by decide))) ?_
         refine h_pu 4 rfl (ls' := #[true, true, true, true, true, false, false, false]) (by kernel_rfl) (fun _ _ _ h => h) rfl (hs.cell .head) (p_negK (z := -dp) rfl (by rw [wrI64 (by omega)]; omega)) ?_
         refine h_one 5 rfl (ls' := #[true, true, true, true, true, true, false, false]) (by kernel_rfl) ?_
         obtain ⟨b8, o8, c8, hp8, hq8⟩ := (hR _ (hs.now .t1)).pow
         refine kc_ldv hp8 rfl rfl rfl ?_
         refine WL_th ⟨(hs.cell .head), ?_⟩
         refine h_pu 6 rfl (ls' := #[true, true, true, true, true, true, true, false]) (by kernel_rfl) (fun _ _ _ h => h) rfl (hs.cell .head) (p_lenL rfl) ?_
         refine h_pu 7 rfl (ls' := #[true, true, true, true, true, true, true, true]) (by kernel_rfl) (fun _ _ _ h => h) rfl (hs.cell .head) (p_geI rfl rfl) ?_
         refine h_done (by kernel_rfl) ?_
         show W _ _ _ _ _ _
         refine W_if rfl (fun h88 => ?_) (fun h88 => ?_)
         ·
          refine W_reg ?_
          refine s_pu (p_assign rfl) rfl ?_
          refine WL_th ?_
          exact ⟨27, (Ext.cons rfl (Ext.cons rfl (Ext.cons rfl (Ext.cons rfl (Ext.cons rfl (Ext.nil _)))))), by decide, by decide, row27, hs⟩
         ·
          have hlt9 := of_decide_eq_false h88
          refine h_start (S := fun w => w.heap[db]? = some (.cells (mkA 804 (dC x (nd : Nat) dp ng tr)) 268 (0, 0))) (ls := #[false, false, false, false, false, false, false, false, false]) (n := 9) (by kernel_rfl) (by kernel_rfl) ?_
          have hs := hs.drew
          refine h_pu 1 rfl (ls' := #[false, true, false, false, false, false, false, false, false]) (by kernel_rfl) (fun _ _ _ h => h) rfl (hs.cell .head) (p_move rfl) ?_
          refine h_pu 2 rfl (ls' := #[false, true, true, false, false, false, false, false, false]) (by kernel_rfl) (fun _ _ _ h => h) rfl (hs.cell .head) (p_nilCheck rfl) ?_
          refine h_pu 3 rfl (ls' := #[false, true, true, true, false, false, false, false, false]) (by kernel_rfl) (fun _ _ _ h => h) rfl (hs.cell .head) (p_field rfl) ?_
          refine h_take 4 rfl (ls' := #[false, true, true, true, true, false, false, false, false]) (by kernel_rfl) (fun _ _ _ h => h) rfl (hs.cell .head) (fun w hw => m_load1 rfl (pt_cell hw 801 (by decide))) ?_
          refine h_pu 5 rfl (ls' := #[false, true, true, true, true, true, false, false, false]) (by kernel_rfl) (fun _ _ _ h => h) rfl (hs.cell .head) (p_negK (z := -dp) rfl (by rw [wrI64 (by omega)]; omega)) ?_
          refine h_one 0 rfl (ls' := #[true, true, true, true, true, true, false, false, false]) (by kernel_rfl) ?_
          obtain ⟨b9, o9, c9, hp9, hq9⟩ := (hR _ (hs.now .t1)).pow
          obtain ⟨k, hk0, hk1, hk2, hk3⟩ := pow_row (-dp).toNat (by omega)
          refine kc_ldv hp9 rfl rfl rfl ?_
          refine WL_th ⟨(hs.cell .head), ?_⟩
          refine h_pu 6 rfl (ls' := #[true, true, true, true, true, true, true, false, false]) (by kernel_rfl) (fun _ _ _ h => h) rfl (hs.cell .head) (p_elem (i := -dp) rfl rfl (by omega) (by omega)) ?_
          refine h_one 7 rfl (ls' := #[true, true, true, true, true, true, true, true, false]) (by kernel_rfl) ?_
          refine kc_ldv (a := ⟨b9, o9 + (-dp).toNat * 1, none⟩) (hq9 _ _ hk0) rfl rfl rfl ?_
          refine WL_th ⟨(hs.cell .head), ?_⟩
          refine h_pu 8 rfl (ls' := #[true, true, true, true, true, true, true, true, true]) (by kernel_rfl) (fun _ _ _ h => h) rfl (hs.cell .head) (p_assign rfl) ?_
          refine h_done (by kernel_rfl) ?_
          show ∃ _, _
          exact ⟨k, (Ext.cons rfl (Ext.cons rfl (Ext.cons rfl (Ext.cons rfl (Ext.cons rfl (Ext.nil _)))))), hk1, hk2, hk3, hs⟩
        ·
         rintro e2 w2 ⟨k, hx, hk1, hk2, hk3, hs⟩
         refine W_forget hx ?_
         clear hx
         obtain ⟨δ, ds, hC⟩ := cheat_of hk3
         refine W_sr ?_
         refine s_pu (p_move rfl) rfl ?_
         refine s_pu (p_move rfl) rfl ?_
         refine k_spec [pt db 268 804 (dC x (nd : Nat) dp ng tr), hold R] (c_shiftL db k δ ds hC R hR x nd dp ng tr hi1 hi2 hi3 hi4 (by omega) (by omega)) hs (.cons rfl (.cons rfl .nil)) rfl ?_
         rintro v99 _ _ ⟨x2, nd2, dp2, tr2, hb1, hb2, hb3, hb4, hb5, hb6, hb7, rfl⟩ hs
         have hx2 := hb3 0 (by omega)
         refine WL_th ?_
         refine W_reg ?_
         refine s_pu (p_move rfl) rfl ?_
         refine s_pu (p_move rfl) rfl ?_
         refine s_pu (p_subI rfl rfl ?_) rfl ?_
         ·
          omega
         refine s_pu (p_assign rfl) rfl ?_
         refine WL_nil ?_
         show ∃ _, _
         refine ⟨(x2, nd2, dp2, tr2, ex - (k : Int)), (Ext.cons rfl (Ext.cons rfl (Ext.cons rfl (Ext.cons rfl (Ext.nil _))))), ⟨⟨hb1, hb2, hb3, hb4, by dsimp only; omega, by dsimp only; omega⟩, ⟨by dsimp only; omega, by dsimp only; omega⟩, hs⟩, by dsimp only; omega⟩
       ·
        refine W_exit ?_
        show W _ _ _ _ _ _
        refine W_sr ?_
        refine s_pu (p_move rfl) rfl ?_
        refine s_pu (p_subI rfl rfl ?_) rfl ?_
        ·
         omega
        refine s_pu (p_assign rfl) rfl ?_
        refine WL_th ?_
        refine W_seq ?_
        refine W_sr ?_
        refine s_pu (p_move rfl) rfl ?_
        refine s_pu (p_move rfl) rfl ?_
        refine s_pu (p_nilCheck rfl) rfl ?_
        refine s_pu (p_field rfl) rfl ?_
        refine kc_ldv (a := ⟨5, 0 + 2, none⟩) (hR _ (hs.now .t1)).bias rfl rfl rfl ?_
        refine s_pu (p_addI rfl rfl ?_) rfl ?_
        ·
         (first | assumption | omega)
        refine s_pu (p_ltI rfl rfl) rfl ?_
        refine WL_th ?_
        refine W_if rfl (fun h2 => ?_) (fun h2 => ?_)
        ·
         exfalso
         have := of_decide_eq_true h2
         omega
        ·
         refine W_skip_th ?_
         refine W_seq ?_
         refine W_seq ?_
         refine h_start (S := fun w => GP w) (ls := #[false, false, false, false, false, false, false, false, false, false, false, false, false]) (n := 13) (by kernel_rfl) (by kernel_rfl) ?_
         have hs := hs.drew
         refine h_pu 0 rfl (ls' := #[true, false, false, false, false, false, false, false, false, false, false, false, false]) (by kernel_rfl) (fun _ _ _ h => h) rfl ((hR _ (hs.now .t1))) (p_move rfl) ?_
         refine h_pu 1 rfl (ls' := #[true, true, false, false, false, false, false, false, false, false, false, false, false]) (by kernel_rfl) (fun _ _ _ h => h) rfl ((hR _ (hs.now .t1))) (p_move rfl) ?_
         refine h_pu 2 rfl (ls' := #[true, true, true, false, false, false, false, false, false, false, false, false, false]) (by kernel_rfl) (fun _ _ _ h => h) rfl ((hR _ (hs.now .t1))) (p_nilCheck rfl) ?_
         refine h_pu 3 rfl (ls' := #[true, true, true, true, false, false, false, false, false, false, false, false, false]) (by kernel_rfl) (fun _ _ _ h => h) rfl ((hR _ (hs.now .t1))) (p_field rfl) ?_
         refine h_take 4 rfl (ls' := #[true, true, true, true, true, false, false, false, false, false, false, false, false]) (by kernel_rfl) (fun _ _ _ h => h) rfl ((hR _ (hs.now .t1))) (fun w hw => m_load1 rfl hw.bias) ?_
         refine h_pu 5 rfl (ls' := #[true, true, true, true, true, true, false, false, false, false, false, false, false]) (by kernel_rfl) (fun _ _ _ h => h) rfl ((hR _ (hs.now .t1))) (p_subK (z := ex - 1 + 1023) rfl rfl (by rw [wrI64 (by omega)]; omega)) ?_
         refine h_pu 6 rfl (ls' := #[true, true, true, true, true, true, true, false, false, false, false, false, false]) (by kernel_rfl) (fun _ _ _ h => h) rfl ((hR _ (hs.now .t1))) (p_move rfl) ?_
         refine h_pu 7 rfl (ls' := #[true, true, true, true, true, true, true, true, false, false, false, false, false]) (by kernel_rfl) (fun _ _ _ h => h) rfl ((hR _ (hs.now .t1))) (p_nilCheck rfl) ?_
         refine h_pu 8 rfl (ls' := #[true, true, true, true, true, true, true, true, true, false, false, false, false]) (by kernel_rfl) (fun _ _ _ h => h) rfl ((hR _ (hs.now .t1))) (p_field rfl) ?_
         refine h_take 9 rfl (ls' := #[true, true, true, true, true, true, true, true, true, true, false, false, false]) (by kernel_rfl) (fun _ _ _ h => h) rfl ((hR _ (hs.now .t1))) (fun w hw => m_load1 rfl hw.expb) ?_
         refine h_pu 10 rfl (ls' := #[true, true, true, true, true, true, true, true, true, true, true, false, false]) (by kernel_rfl) (fun _ _ _ h => h) rfl ((hR _ (hs.now .t1))) (p_shlK (z := 2048) rfl rfl (by decide) (by decide)) ?_
         refine h_pu 11 rfl (ls' := #[true, true, true, true, true, true, true, true, true, true, true, true, false]) (by kernel_rfl) (fun _ _ _ h => h) rfl ((hR _ (hs.now .t1))) (p_subK (z := 2047) rfl rfl (by decide)) ?_
         refine h_pu 12 rfl (ls' := #[true, true, true, true, true, true, true, true, true, true, true, true, true]) (by kernel_rfl) (fun _ _ _ h => h) rfl ((hR _ (hs.now .t1))) (p_geI rfl rfl) ?_
         refine h_done (by kernel_rfl) ?_
         show W _ _ _ _ _ _
         refine W_forget (Ext.cd 0 rfl (Ext.cd 1 rfl (Ext.cd 5 rfl (Ext.cd 6 rfl (Ext.cd 138 rfl (Ext.nil _)))))) ?_
         refine W_if rfl (fun h3 => ?_) (fun h3 => ?_)
         ·
          exfalso
          have := of_decide_eq_true h3
          omega
         ·
          refine W_skip_th ?_
          refine W_sr ?_
          refine s_pu (p_move rfl) rfl ?_
          refine s_pu (p_move rfl) rfl ?_
          refine s_pu (p_nilCheck rfl) rfl ?_
          refine s_pu (p_field rfl) rfl ?_
          refine kc_ldv (a := ⟨5, 0 + 0, none⟩) (hR _ (hs.now .t1)).mant rfl rfl rfl ?_
          refine s_pu (p_addW rfl rfl) rfl ?_
          refine s_pu (p_conv rfl) rfl ?_
          obtain ⟨δ, ds, hC⟩ := cheat_of row53
          refine k_spec [pt db 268 804 (dC x (nd : Nat) dp ng tr), hold R] (c_shiftL db 53 δ ds hC R hR x nd dp ng tr hi1 hi2 hi3 hi4 (by omega) (by omega)) hs (.cons rfl (.cons rfl .nil)) rfl ?_
          rintro v146 _ _ ⟨x2, nd2, dp2, tr2, hb1, hb2, hb3, hb4, hb5, hb6, hb7, rfl⟩ hs
          refine WL_th ?_
          refine W_sr ?_
          refine s_pu (p_move rfl) rfl ?_
          refine k_quiet (c_RoundedInteger db x2 nd2 dp2 ng tr2 hb2 (by omega) _ (hs.cell .head)) hs (.cons rfl .nil) rfl ?_
          rintro _ _ ⟨m, rfl⟩ hs _
          refine s_pu (p_assign rfl) rfl ?_
          refine WL_th ?_
          refine W_forget (Ext.cd 0 rfl (Ext.cd 1 rfl (Ext.cd 5 rfl (Ext.cd 6 rfl (Ext.cd 7 rfl (Ext.nil _)))))) ?_
          refine W_join (fun e' w' => ∃ (n7 e7 : Int), Ext e' (upd (upd (upd (upd (upd emp 7 (.int .u64 n7)) 6 (.int .i64 e7)) 5 (.bool false)) 1 (.pointer (some ⟨5, 0, none⟩))) 0 (.pointer (some ⟨db, 0, none⟩))) ∧ -1000 ≤ e7 ∧ e7 ≤ 900 ∧ St wI S w' [pt db 268 804 (dC x2 (nd2 : Nat) dp2 ng tr2), hold R]) ?_ ?_
          ·
           refine W_sr ?_
           refine s_pu (p_move rfl) rfl ?_
           refine s_pu (p_move rfl) rfl ?_
           refine s_pu (p_nilCheck rfl) rfl ?_
           refine s_pu (p_field rfl) rfl ?_
           refine kc_ldv (a := ⟨5, 0 + 0, none⟩) (hR _ (hs.now .t1)).mant rfl rfl rfl ?_
           refine s_pu (p_shlK (z := 9007199254740992) rfl rfl (by decide) (by decide)) rfl ?_
           refine s_pu (p_eqI rfl rfl) rfl ?_
           refine WL_th ?_
           refine W_if rfl (fun h155 => ?_) (fun h155 => ?_)
           ·
            refine W_sr ?_
            refine s_pu (p_move rfl) rfl ?_
            refine s_pu (p_shr rfl rfl ?_) rfl ?_
            ·
             (first | assumption | omega)
            refine s_pu (p_assign rfl) rfl ?_
            refine WL_th ?_
            refine W_sr ?_
            refine s_pu (p_move rfl) rfl ?_
            refine s_pu (p_addI rfl rfl ?_) rfl ?_
            ·
             omega
            refine s_pu (p_assign rfl) rfl ?_
            refine WL_th ?_
            refine W_forget (Ext.cd 0 rfl (Ext.cd 1 rfl (Ext.cd 5 rfl (Ext.cd 6 rfl (Ext.cd 7 rfl (Ext.nil _)))))) ?_
            refine W_seq ?_
            refine h_start (S := fun w => GP w) (ls := #[false, false, false, false, false, false, false, false, false, false, false, false, false]) (n := 13) (by kernel_rfl) (by kernel_rfl) ?_
            have hs := hs.drew
            refine h_pu 0 rfl (ls' := #[true, false, false, false, false, false, false, false, false, false, false, false, false]) (by kernel_rfl) (fun _ _ _ h => h) rfl ((hR _ (hs.now .t1))) (p_move rfl) ?_
            refine h_pu 1 rfl (ls' := #[true, true, false, false, false, false, false, false, false, false, false, false, false]) (by kernel_rfl) (fun _ _ _ h => h) rfl ((hR _ (hs.now .t1))) (p_move rfl) ?_
            refine h_pu 2 rfl (ls' := #[true, true, true, false, false, false, false, false, false, false, false, false, false]) (by kernel_rfl) (fun _ _ _ h => h) rfl ((hR _ (hs.now .t1))) (p_nilCheck rfl) ?_
            refine h_pu 3 rfl (ls' := #[true, true, true, true, false, false, false, false, false, false, false, false, false]) (by kernel_rfl) (fun _ _ _ h => h) rfl ((hR _ (hs.now .t1))) (p_field rfl) ?_
            refine h_take 4 rfl (ls' := #[true, true, true, true, true, false, false, false, false, false, false, false, false]) (by kernel_rfl) (fun _ _ _ h => h) rfl ((hR _ (hs.now .t1))) (fun w hw => m_load1 rfl hw.bias) ?_
            refine h_pu 5 rfl (ls' := #[true, true, true, true, true, true, false, false, false, false, false, false, false]) (by kernel_rfl) (fun _ _ _ h => h) rfl ((hR _ (hs.now .t1))) (p_subK (z := ex - 1 + 1 + 1023) rfl rfl (by rw [wrI64 (by omega)]; omega)) ?_
            refine h_pu 6 rfl (ls' := #[true, true, true, true, true, true, true, false, false, false, false, false, false]) (by kernel_rfl) (fun _ _ _ h => h) rfl ((hR _ (hs.now .t1))) (p_move rfl) ?_
            refine h_pu 7 rfl (ls' := #[true, true, true, true, true, true, true, true, false, false, false, false, false]) (by kernel_rfl) (fun _ _ _ h => h) rfl ((hR _ (hs.now .t1))) (p_nilCheck rfl) ?_
            refine h_pu 8 rfl (ls' := #[true, true, true, true, true, true, true, true, true, false, false, false, false]) (by kernel_rfl) (fun _ _ _ h => h) rfl ((hR _ (hs.now .t1))) (p_field rfl) ?_
            refine h_take 9 rfl (ls' := #[true, true, true, true, true, true, true, true, true, true, false, false, false]) (by kernel_rfl) (fun _ _ _ h => h) rfl ((hR _ (hs.now .t1))) (fun w hw => m_load1 rfl hw.expb) ?_
            refine h_pu 10 rfl (ls' := #[true, true, true, true, true, true, true, true, true, true, true, false, false]) (by kernel_rfl) (fun _ _ _ h => h) rfl ((hR _ (hs.now .t1))) (p_shlK (z := 2048) rfl rfl (by decide) (by decide)) ?_
            refine h_pu 11 rfl (ls' := #[true, true, true, true, true, true, true, true, true, true, true, true, false]) (by kernel_rfl) (fun _ _ _ h => h) rfl ((hR _ (hs.now .t1))) (p_subK (z := 2047) rfl rfl (by decide)) ?_
            refine h_pu 12 rfl (ls' := #[true, true, true, true, true, true, true, true, true, true, true, true, true]) (by kernel_rfl) (fun _ _ _ h => h) rfl ((hR _ (hs.now .t1))) (p_geI rfl rfl) ?_
            refine h_done (by kernel_rfl) ?_
            show W _ _ _ _ _ _
            refine W_forget (Ext.cd 0 rfl (Ext.cd 1 rfl (Ext.cd 5 rfl (Ext.cd 6 rfl (Ext.cd 7 rfl (Ext.cd 172 rfl (Ext.nil _))))))) ?_
            refine W_if rfl (fun h4 => ?_) (fun h4 => ?_)
            ·
             exfalso
             have := of_decide_eq_true h4
             omega
            ·
             refine W_skip_th ?_
             exact ⟨_, _, (Ext.cons rfl (Ext.cons rfl (Ext.cons rfl (Ext.cons rfl (Ext.cons rfl (Ext.nil _)))))), by omega, by omega, hs⟩
           ·
            refine W_skip_th ?_
            exact ⟨_, _, (Ext.cons rfl (Ext.cons rfl (Ext.cons rfl (Ext.cons rfl (Ext.cons rfl (Ext.nil _)))))), by omega, by omega, hs⟩
          ·
           rintro e3 w3 ⟨n7, e7, hx, he1, he2, hs⟩
           refine W_forget hx ?_
           clear hx
           refine W_join (fun e' w' => ∃ (n7 e7 : Int), Ext e' (upd (upd (upd (upd (upd emp 7 (.int .u64 n7)) 6 (.int .i64 e7)) 5 (.bool false)) 1 (.pointer (some ⟨5, 0, none⟩))) 0 (.pointer (some ⟨db, 0, none⟩))) ∧ -1023 ≤ e7 ∧ e7 ≤ 900 ∧ St wI S w' [pt db 268 804 (dC x2 (nd2 : Nat) dp2 ng tr2), hold R]) ?_ ?_
           ·
            refine W_sr ?_
            refine s_pu (p_move rfl) rfl ?_
            refine s_pu (p_move rfl) rfl ?_
            refine s_pu (p_nilCheck rfl) rfl ?_
            refine s_pu (p_field rfl) rfl ?_
            refine kc_ldv (a := ⟨5, 0 + 0, none⟩) (hR _ (hs.now .t1)).mant rfl rfl rfl ?_
            refine s_pu (p_shlK (z := 4503599627370496) rfl rfl (by decide) (by decide)) rfl ?_
            refine s_pu (p_and rfl rfl) rfl ?_
            refine s_pu (p_eqI rfl rfl) rfl ?_
            refine WL_th ?_
            refine W_if rfl (fun h180 => ?_) (fun h180 => ?_)
            ·
             refine W_reg ?_
             refine s_pu (p_move rfl) rfl ?_
             refine s_pu (p_nilCheck rfl) rfl ?_
             refine s_pu (p_field rfl) rfl ?_
             refine kc_ldv (a := ⟨5, 0 + 2, none⟩) (hR _ (hs.now .t1)).bias rfl rfl rfl ?_
             refine s_pu (p_assign rfl) rfl ?_
             refine WL_th ?_
             exact ⟨_, _, (Ext.cons rfl (Ext.cons rfl (Ext.cons rfl (Ext.cons rfl (Ext.cons rfl (Ext.nil _)))))), by omega, by omega, hs⟩
            ·
             refine W_skip_th ?_
             exact ⟨_, _, (Ext.cons rfl (Ext.cons rfl (Ext.cons rfl (Ext.cons rfl (Ext.cons rfl (Ext.nil _)))))), by omega, by omega, hs⟩
           ·
            rintro e4 w4 ⟨n7, e7, hx, he1, he2, hs⟩
            refine W_forget hx ?_
            clear hx
            refine W_seq ?_
            refine W_goto ?_
            refine th_goto ?_
            refine sj_goto ?_
            exact ⟨_, _, _, _, _, _, (Ext.cons rfl (Ext.cons rfl (Ext.cons rfl (Ext.cons rfl (Ext.cons rfl (Ext.nil _)))))), by omega, by omega, hs⟩
 ·
  rintro e9 w9 ⟨x3, nd3, dp3, tr3, n3, ex3, hx, hex1, hex2, hs⟩
  refine W_forget hx ?_
  clear hx
  refine W_seq ?_
  refine W_skip_th ?_
  refine W_sr ?_
  refine s_pu (p_move rfl) rfl ?_
  refine s_pu (p_move rfl) rfl ?_
  refine s_pu (p_nilCheck rfl) rfl ?_
  refine s_pu (p_field rfl) rfl ?_
  refine kc_ldv (a := ⟨5, 0 + 0, none⟩) (hR _ (hs.now .t1)).mant rfl rfl rfl ?_
  refine s_pu (p_shlK (z := 4503599627370496) rfl rfl (by decide) (by decide)) rfl ?_
  refine s_pu (p_subK (z := 4503599627370495) rfl rfl (by decide)) rfl ?_
  refine s_pu (p_and rfl rfl) rfl ?_
  refine s_pu (p_assign rfl) rfl ?_
  refine WL_th ?_
  refine W_seq ?_
  refine h_start (S := fun w => GP w) (ls := #[false, false, false, false, false, false, false, false, false, false, false, false, false, false, false, false, false, false, false, false, false, false]) (n := 22) (by kernel_rfl) (by kernel_rfl) ?_
  have hs := hs.drew
  refine h_pu 0 rfl (ls' := #[true, false, false, false, false, false, false, false, false, false, false, false, false, false, false, false, false, false, false, false, false, false]) (by kernel_rfl) (fun _ _ _ h => h) rfl ((hR _ (hs.now .t1))) (p_move rfl) ?_
  refine h_pu 1 rfl (ls' := #[true, true, false, false, false, false, false, false, false, false, false, false, false, false, false, false, false, false, false, false, false, false]) (by kernel_rfl) (fun _ _ _ h => h) rfl ((hR _ (hs.now .t1))) (p_move rfl) ?_
  refine h_pu 2 rfl (ls' := #[true, true, true, false, false, false, false, false, false, false, false, false, false, false, false, false, false, false, false, false, false, false]) (by kernel_rfl) (fun _ _ _ h => h) rfl ((hR _ (hs.now .t1))) (p_move rfl) ?_
  refine h_pu 3 rfl (ls' := #[true, true, true, true, false, false, false, false, false, false, false, false, false, false, false, false, false, false, false, false, false, false]) (by kernel_rfl) (fun _ _ _ h => h) rfl ((hR _ (hs.now .t1))) (p_nilCheck rfl) ?_
  refine h_pu 4 rfl (ls' := #[true, true, true, true, true, false, false, false, false, false, false, false, false, false, false, false, false, false, false, false, false, false]) (by kernel_rfl) (fun _ _ _ h => h) rfl ((hR _ (hs.now .t1))) (p_field rfl) ?_
  refine h_take 5 rfl (ls' := #[true, true, true, true, true, true, false, false, false, false, false, false, false, false, false, false, false, false, false, false, false, false]) (by kernel_rfl) (fun _ _ _ h => h) rfl ((hR _ (hs.now .t1))) (fun w hw => m_load1 rfl hw.bias) ?_
  refine h_pu 6 rfl (ls' := #[true, true, true, true, true, true, true, false, false, false, false, false, false, false, false, false, false, false, false, false, false, false]) (by kernel_rfl) (fun _ _ _ h => h) rfl ((hR _ (hs.now .t1))) (p_subK (z := ex3 + 1023) rfl rfl (by rw [wrI64 (by omega)]; omega)) ?_
  refine h_pu 7 rfl (ls' := #[true, true, true, true, true, true, true, true, false, false, false, false, false, false, false, false, false, false, false, false, false, false]) (by kernel_rfl) (fun _ _ _ h => h) rfl ((hR _ (hs.now .t1))) (p_move rfl) ?_
  refine h_pu 8 rfl (ls' := #[true, true, true, true, true, true, true, true, true, false, false, false, false, false, false, false, false, false, false, false, false, false]) (by kernel_rfl) (fun _ _ _ h => h) rfl ((hR _ (hs.now .t1))) (p_nilCheck rfl) ?_
  refine h_pu 9 rfl (ls' := #[true, true, true, true, true, true, true, true, true, true, false, false, false, false, false, false, false, false, false, false, false, false]) (by kernel_rfl) (fun _ _ _ h => h) rfl ((hR _ (hs.now .t1))) (p_field rfl) ?_
  refine h_take 10 rfl (ls' := #[true, true, true, true, true, true, true, true, true, true, true, false, false, false, false, false, false, false, false, false, false, false]) (by kernel_rfl) (fun _ _ _ h => h) rfl ((hR _ (hs.now .t1))) (fun w hw => m_load1 rfl hw.expb) ?_
  refine h_pu 11 rfl (ls' := #[true, true, true, true, true, true, true, true, true, true, true, true, false, false, false, false, false, false, false, false, false, false]) (by kernel_rfl) (fun _ _ _ h => h) rfl ((hR _ (hs.now .t1))) (p_shlK (z := 2048) rfl rfl (by decide) (by decide)) ?_
  refine h_pu 12 rfl (ls' := #[true, true, true, true, true, true, true, true, true, true, true, true, true, false, false, false, false, false, false, false, false, false]) (by kernel_rfl) (fun _ _ _ h => h) rfl ((hR _ (hs.now .t1))) (p_subK (z := 2047) rfl rfl (by decide)) ?_
  refine h_pu 13 rfl (ls' := #[true, true, true, true, true, true, true, true, true, true, true, true, true, true, false, false, false, false, false, false, false, false]) (by kernel_rfl) (fun _ _ _ h => h) rfl ((hR _ (hs.now .t1))) (p_and rfl rfl) ?_
  refine h_pu 14 rfl (ls' := #[true, true, true, true, true, true, true, true, true, true, true, true, true, true, true, false, false, false, false, false, false, false]) (by kernel_rfl) (fun _ _ _ h => h) rfl ((hR _ (hs.now .t1))) (p_conv rfl) ?_
  refine h_pu 15 rfl (ls' := #[true, true, true, true, true, true, true, true, true, true, true, true, true, true, true, true, false, false, false, false, false, false]) (by kernel_rfl) (fun _ _ _ h => h) rfl ((hR _ (hs.now .t1))) (p_move rfl) ?_
  refine h_pu 16 rfl (ls' := #[true, true, true, true, true, true, true, true, true, true, true, true, true, true, true, true, true, false, false, false, false, false]) (by kernel_rfl) (fun _ _ _ h => h) rfl ((hR _ (hs.now .t1))) (p_nilCheck rfl) ?_
  refine h_pu 17 rfl (ls' := #[true, true, true, true, true, true, true, true, true, true, true, true, true, true, true, true, true, true, false, false, false, false]) (by kernel_rfl) (fun _ _ _ h => h) rfl ((hR _ (hs.now .t1))) (p_field rfl) ?_
  refine h_take 18 rfl (ls' := #[true, true, true, true, true, true, true, true, true, true, true, true, true, true, true, true, true, true, true, false, false, false]) (by kernel_rfl) (fun _ _ _ h => h) rfl ((hR _ (hs.now .t1))) (fun w hw => m_load1 rfl hw.mant) ?_
  refine h_pu 19 rfl (ls' := #[true, true, true, true, true, true, true, true, true, true, true, true, true, true, true, true, true, true, true, true, false, false]) (by kernel_rfl) (fun _ _ _ h => h) rfl ((hR _ (hs.now .t1))) (p_shl rfl rfl (by decide)) ?_
  refine h_pu 20 rfl (ls' := #[true, true, true, true, true, true, true, true, true, true, true, true, true, true, true, true, true, true, true, true, true, false]) (by kernel_rfl) (fun _ _ _ h => h) rfl ((hR _ (hs.now .t1))) (p_or rfl rfl) ?_
  refine h_pu 21 rfl (ls' := #[true, true, true, true, true, true, true, true, true, true, true, true, true, true, true, true, true, true, true, true, true, true]) (by kernel_rfl) (fun _ _ _ h => h) rfl ((hR _ (hs.now .t1))) (p_assign rfl) ?_
  refine h_done (by kernel_rfl) ?_
  show W _ _ _ _ _ _
  refine W_forget (Ext.cd 0 rfl (Ext.cd 1 rfl (Ext.cd 5 rfl (Ext.cd 11 rfl (Ext.nil _))))) ?_
  refine W_join (fun e' w' => ∃ n7 : Int, Ext e' (upd (upd emp 11 (.int .u64 n7)) 5 (.bool false)) ∧ ∃ f, St wI S w' [pt db 268 804 f, hold R]) ?_ ?_
  ·
   refine W_sr ?_
   refine s_pu (p_move rfl) rfl ?_
   refine s_pu (p_nilCheck rfl) rfl ?_
   refine s_pu (p_field rfl) rfl ?_
   refine k_dng (hs.cell .head) rfl rfl ?_
   refine WL_th ?_
   refine W_if rfl (fun h228 => ?_) (fun h228 => ?_)
   ·
    refine h_start (S := fun w => GP w) (ls := #[false, false, false, false, false, false, false, false, false, false, false, false, false]) (n := 13) (by kernel_rfl) (by kernel_rfl) ?_
    have hs := hs.drew
    refine h_pu 0 rfl (ls' := #[true, false, false, false, false, false, false, false, false, false, false, false, false]) (by kernel_rfl) (fun _ _ _ h => h) rfl ((hR _ (hs.now .t1))) (p_move rfl) ?_
    refine h_pu 1 rfl (ls' := #[true, true, false, false, false, false, false, false, false, false, false, false, false]) (by kernel_rfl) (fun _ _ _ h => h) rfl ((hR _ (hs.now .t1))) (p_move rfl) ?_
    refine h_pu 2 rfl (ls' := #[true, true, true, false, false, false, false, false, false, false, false, false, false]) (by kernel_rfl) (fun _ _ _ h => h) rfl ((hR _ (hs.now .t1))) (p_nilCheck rfl) ?_
    refine h_pu 3 rfl (ls' := #[true, true, true, true, false, false, false, false, false, false, false, false, false]) (by kernel_rfl) (fun _ _ _ h => h) rfl ((hR _ (hs.now .t1))) (p_field rfl) ?_
    refine h_take 4 rfl (ls' := #[true, true, true, true, true, false, false, false, false, false, false, false, false]) (by kernel_rfl) (fun _ _ _ h => h) rfl ((hR _ (hs.now .t1))) (fun w hw => m_load1 rfl hw.mant) ?_
    refine h_pu 5 rfl (ls' := #[true, true, true, true, true, true, false, false, false, false, false, false, false]) (by kernel_rfl) (fun _ _ _ h => h) rfl ((hR _ (hs.now .t1))) (p_shlK (z := 4503599627370496) rfl rfl (by decide) (by decide)) ?_
    refine h_pu 6 rfl (ls' := #[true, true, true, true, true, true, true, false, false, false, false, false, false]) (by kernel_rfl) (fun _ _ _ h => h) rfl ((hR _ (hs.now .t1))) (p_move rfl) ?_
    refine h_pu 7 rfl (ls' := #[true, true, true, true, true, true, true, true, false, false, false, false, false]) (by kernel_rfl) (fun _ _ _ h => h) rfl ((hR _ (hs.now .t1))) (p_nilCheck rfl) ?_
    refine h_pu 8 rfl (ls' := #[true, true, true, true, true, true, true, true, true, false, false, false, false]) (by kernel_rfl) (fun _ _ _ h => h) rfl ((hR _ (hs.now .t1))) (p_field rfl) ?_
    refine h_take 9 rfl (ls' := #[true, true, true, true, true, true, true, true, true, true, false, false, false]) (by kernel_rfl) (fun _ _ _ h => h) rfl ((hR _ (hs.now .t1))) (fun w hw => m_load1 rfl hw.expb) ?_
    refine h_pu 10 rfl (ls' := #[true, true, true, true, true, true, true, true, true, true, true, false, false]) (by kernel_rfl) (fun _ _ _ h => h) rfl ((hR _ (hs.now .t1))) (p_shlK (z := 9223372036854775808) rfl rfl (by decide) (by decide)) ?_
    refine h_pu 11 rfl (ls' := #[true, true, true, true, true, true, true, true, true, true, true, true, false]) (by kernel_rfl) (fun _ _ _ h => h) rfl ((hR _ (hs.now .t1))) (p_or rfl rfl) ?_
    refine h_pu 12 rfl (ls' := #[true, true, true, true, true, true, true, true, true, true, true, true, true]) (by kernel_rfl) (fun _ _ _ h => h) rfl ((hR _ (hs.now .t1))) (p_assign rfl) ?_
    refine h_done (by kernel_rfl) ?_
    show ∃ _, _
    exact ⟨_, (Ext.cons rfl (Ext.cons rfl (Ext.nil _))), _, hs⟩
   ·
    refine W_skip_th ?_
    exact ⟨_, (Ext.cons rfl (Ext.cons rfl (Ext.nil _))), _, hs⟩
  ·
   rintro e5 w5 ⟨n7, hx, f, hs⟩
   refine W_forget hx ?_
   clear hx
   refine W_sr ?_
   refine s_pu (p_move rfl) rfl ?_
   refine s_pu (p_move rfl) rfl ?_
   refine s_pu (p_assign rfl) rfl ?_
   refine s_pu (p_assign rfl) rfl ?_
   refine WL_th ?_
   refine W_ret ?_
   refine sc_ret ?_
   refine ret_tmp2 (fn := Tryz.f130) rfl rfl rfl ?_
   exact hs.spec ⟨⟨n7, rfl⟩, f, rfl⟩
end Go.Proofs.YtmalghopogngoaaGreatDoor
set_option linter.unusedVariables false
set_option linter.unusedSimpArgs false
set_option maxRecDepth 4000
namespace Go.Proofs.YtmalghopogngoaaGreatDoor
open Go Go.RowKit MW
theorem cl_rep (v : Value) (t : List Value) : ∀ n i, cl (List.replicate n v ++ t) i = bif Nat.blt i n then v else cl t (i - n) := by
 intro n
 induction n with
 | zero => intro i; rfl
 | succ n ih =>
  intro i
  cases i with
  | zero => rfl
  | succ i =>
   show cl (List.replicate n v ++ t) i = bif Nat.blt (i + 1) (n + 1) then v else cl t (i + 1 - (n + 1))
   rw [ih i, Nat.add_sub_add_right]
   rfl
def z268 : List Value := List.replicate 800 (.int .u8 0) ++ [.int .i64 0, .int .i64 0, .bool false, .bool false]
instance : Zero Tryz.prog 268 z268 := ⟨by kernel_rfl⟩
theorem z268_dC (i : Nat) (_ : i < 804) : cl z268 i = dC (fun _ => 0) (0 : Nat) 0 false false i := cl_rep _ _ 800 i
theorem ext_all (s : ByteArray) : s.extract 0 s.size = s := by simp
theorem c_special (s : ByteArray) (o p : Nat) (hF : FT s o p) (wI : World) : Quiet Tryz.prog 122 [.string s] wI fun v => v = .tuple #[.float .f64 0, .int .i64 0, .bool false] := by
 have ho := hF.ho
 have hp1 := hF.hp
 have hsz := hF.hlt
 rcases (show o = 0 ∨ o = 1 by omega) with h | h
 ·
  exact c_special0 s (by omega) (hF.hdig 0 (by omega) (by omega) (by omega)) wI
 ·
  exact c_special1 s (by omega) (hF.hsg h) (hF.hdig 1 (by omega) (by omega) (by omega)) wI
theorem c_atof64s (R : World → Prop) (hR : ∀ w, R w → GP w) (s : ByteArray) (o p : Nat) (hF : FT s o p) :
  MW.Spec Tryz.prog 117 [.string s].toArray [hold R] fun v G => (∃ n, v = .tuple #[.float .f64 n, .int .i64 s.size, .nilIface]) ∧ G = [hold R] := by
 intro wI S hsat
 have hs := St.start hsat
 have hmax := hF.hmax
 refine calls_W (args := [_]) Tryz.func117 rfl Tryz.ntmps117 rfl ?_
 refine W_sr ?_
 refine s_pu (p_assign rfl) rfl ?_
 refine s_pu (p_assign rfl) rfl ?_
 refine s_pu (p_assign rfl) rfl ?_
 refine WL_th ?_
 refine W_seq ?_
 refine W_sr ?_
 refine s_pu (p_move rfl) rfl ?_
 refine k_quiet (c_special s o p hF _) hs (.cons rfl .nil) rfl ?_
 rintro _ _ rfl hs _
 refine s_pu (p_move rfl) rfl ?_
 refine s_pu (p_extract rfl rfl) rfl ?_
 refine s_pu (p_extract rfl rfl) rfl ?_
 refine s_pu (p_extract rfl rfl) rfl ?_
 refine s_pu (p_assign rfl) rfl ?_
 refine s_pu (p_assign rfl) rfl ?_
 refine s_pu (p_assign rfl) rfl ?_
 refine WL_th ?_
 refine W_sr ?_
 refine s_pu (p_move rfl) rfl ?_
 refine WL_th ?_
 refine W_false rfl ?_
 refine W_skip_th ?_
 refine W_forget (Ext.cd 0 rfl (Ext.cd 4 rfl (Ext.nil _))) ?_
 refine W_sr ?_
 refine s_pu (p_move rfl) rfl ?_
 refine k_quiet (c_readFloat s o p hF _) hs (.cons rfl .nil) rfl ?_
 rintro _ _ ⟨m, ex, ng, tr, rfl, hex1, hex2⟩ hs _
 refine s_pu (p_move rfl) rfl ?_
 refine s_pu (p_extract rfl rfl) rfl ?_
 refine s_pu (p_extract rfl rfl) rfl ?_
 refine s_pu (p_extract rfl rfl) rfl ?_
 refine s_pu (p_extract rfl rfl) rfl ?_
 refine s_pu (p_extract rfl rfl) rfl ?_
 refine s_pu (p_extract rfl rfl) rfl ?_
 refine s_pu (p_extract rfl rfl) rfl ?_
 refine s_pu (p_assign rfl) rfl ?_
 refine s_pu (p_assign rfl) rfl ?_
 refine s_pu (p_assign rfl) rfl ?_
 refine s_pu (p_assign rfl) rfl ?_
 refine s_pu (p_assign rfl) rfl ?_
 refine s_pu (p_assign rfl) rfl ?_
 refine s_pu (p_assign rfl) rfl ?_
 refine WL_th ?_
 refine W_seq ?_
 refine W_sr ?_
 refine s_pu (p_move rfl) rfl ?_
 refine s_pu (p_not rfl) rfl ?_
 refine WL_th ?_
 refine W_forget (Ext.cd 0 rfl (Ext.cd 3 rfl (Ext.cd 4 rfl (Ext.cd 8 rfl (Ext.cd 9 rfl (Ext.cd 10 rfl (Ext.cd 11 rfl (Ext.cd 12 rfl (Ext.cd 46 rfl (Ext.nil _)))))))))) ?_
 refine W_false rfl ?_
 refine W_skip_th ?_
 refine W_seq ?_
 refine W_sr ?_
 refine s_pu (p_move rfl) rfl ?_
 refine WL_th ?_
 refine W_false rfl ?_
 refine W_skip_th ?_
 refine W_seq ?_
 refine W_sr ?_
 refine kc_ldv (a := ⟨4, 0, none⟩) (hR _ (hs.now .head)).opt rfl rfl rfl ?_
 refine WL_th ?_
 refine W_true rfl ?_
 refine W_sr ?_
 refine s_pu (p_move rfl) rfl ?_
 refine k_quiet (c_bool2u _ _) hs (.cons rfl .nil) rfl ?_
 rintro _ _ ⟨b66, rfl, _, _⟩ hs _
 refine s_pu (p_shl rfl rfl ?_) rfl ?_
 ·
  decide
 refine s_pu (p_assign rfl) rfl ?_
 refine WL_th ?_
 refine W_seq ?_
 refine W_sr ?_
 refine s_pu (p_move rfl) rfl ?_
 refine s_pu (p_eqI rfl rfl) rfl ?_
 refine WL_th ?_
 refine W_if rfl (fun h69 => ?_) (fun h69 => ?_)
 ·
  refine W_sr ?_
  refine s_pu (p_move rfl) rfl ?_
  refine s_pu (p_or rfl rfl) rfl ?_
  refine s_pu (p_frombits rfl) rfl ?_
  refine s_pu (p_move rfl) rfl ?_
  refine s_pu (p_assign rfl) rfl ?_
  refine s_pu (p_assign rfl) rfl ?_
  refine s_pu (p_assign rfl) rfl ?_
  refine WL_th ?_
  refine W_forget (Ext.cd 2 rfl (Ext.cd 3 rfl (Ext.cd 4 rfl (Ext.nil _)))) ?_
  refine W_ret ?_
  refine th_ret ?_
  refine th_ret ?_
  refine ret_tmp3 (fn := Tryz.f117) rfl rfl rfl rfl ?_
  exact hs.spec ⟨⟨_, rfl⟩, rfl⟩
 ·
  refine W_skip_th ?_
  refine W_seq ?_
  refine W_sr ?_
  refine s_pu (p_move rfl) rfl ?_
  refine s_pu (p_gtI rfl rfl) rfl ?_
  refine WL_th ?_
  refine W_if rfl (fun h0 => ?_) (fun h0 => ?_)
  ·
   exfalso
   have := of_decide_eq_true h0
   omega
  ·
   refine W_skip_th ?_
   refine W_forget (Ext.cd 0 rfl (Ext.cd 3 rfl (Ext.cd 4 rfl (Ext.cd 8 rfl (Ext.cd 9 rfl (Ext.cd 10 rfl (Ext.cd 11 rfl (Ext.cd 16 rfl (Ext.nil _))))))))) ?_
   refine W_seq ?_
   refine W_sr ?_
   refine s_pu (p_move rfl) rfl ?_
   refine s_pu (p_ltI rfl rfl) rfl ?_
   refine WL_th ?_
   refine W_if rfl (fun h1 => ?_) (fun h1 => ?_)
   ·
    exfalso
    have := of_decide_eq_true h1
    omega
   ·
    refine W_skip_th ?_
    refine W_join (fun e' w' => ∃ sg : Int, Ext e' (upd (upd (upd (upd (upd (upd (upd emp 16 (.int .u64 sg)) 11 (.bool tr)) 9 (.int .i64 ex)) 8 (.int .u64 m)) 4 (.nilIface)) 3 (.int .i64 s.size)) 0 (.string s)) ∧ St wI S w' [hold R]) ?_ ?_
    ·
     refine W_sr ?_
     refine s_pu (p_move rfl) rfl ?_
     refine s_pu (p_not rfl) rfl ?_
     refine WL_th ?_
     refine W_if rfl (fun h88 => ?_) (fun h88 => ?_)
     ·
      refine W_sr ?_
      refine s_pu (p_move rfl) rfl ?_
      refine s_pu (p_move rfl) rfl ?_
      refine s_pu (p_move rfl) rfl ?_
      refine k_quiet (c_atof64exact _ _ _ _ (hR _ (hs.now .head))) hs (.cons rfl (.cons rfl (.cons rfl .nil))) rfl ?_
      rintro _ _ ⟨n93, b93, rfl⟩ hs _
      refine s_pu (p_move rfl) rfl ?_
      refine s_pu (p_extract rfl rfl) rfl ?_
      refine s_pu (p_extract rfl rfl) rfl ?_
      refine s_pu (p_assign rfl) rfl ?_
      refine s_pu (p_assign rfl) rfl ?_
      refine WL_th ?_
      refine W_forget (Ext.cd 0 rfl (Ext.cd 3 rfl (Ext.cd 4 rfl (Ext.cd 8 rfl (Ext.cd 9 rfl (Ext.cd 11 rfl (Ext.cd 16 rfl (Ext.cd 17 rfl (Ext.cd 18 rfl (Ext.nil _)))))))))) ?_
      refine W_sr ?_
      refine s_pu (p_move rfl) rfl ?_
      refine WL_th ?_
      refine W_if rfl (fun h96 => ?_) (fun h96 => ?_)
      ·
       refine W_sr ?_
       refine s_pu (p_move rfl) rfl ?_
       refine s_pu (p_move rfl) rfl ?_
       refine s_pu (p_assign rfl) rfl ?_
       refine s_pu (p_assign rfl) rfl ?_
       refine s_pu (p_assign rfl) rfl ?_
       refine WL_th ?_
       refine W_ret ?_
       refine th_ret ?_
       refine th_ret ?_
       refine ret_tmp3 (fn := Tryz.f117) rfl rfl rfl rfl ?_
       exact hs.spec ⟨⟨_, rfl⟩, rfl⟩
      ·
       refine W_skip_th ?_
       exact ⟨_, (Ext.cons rfl (Ext.cons rfl (Ext.cons rfl (Ext.cons rfl (Ext.cons rfl (Ext.cons rfl (Ext.cons rfl (Ext.nil _)))))))), hs⟩
     ·
      refine W_skip_th ?_
      exact ⟨_, (Ext.cons rfl (Ext.cons rfl (Ext.cons rfl (Ext.cons rfl (Ext.cons rfl (Ext.cons rfl (Ext.cons rfl (Ext.nil _)))))))), hs⟩
    ·
     rintro e1 w1 ⟨sg, hx, hs⟩
     refine W_forget hx ?_
     clear hx
     refine W_sr ?_
     refine s_pu (p_move rfl) rfl ?_
     refine s_pu (p_move rfl) rfl ?_
     refine s_pu (p_move rfl) rfl ?_
     refine k_quiet (c_parseFloat64 _ ex _ hex1 hex2 _ (hR _ (hs.now .head))) hs (.cons rfl (.cons rfl (.cons rfl .nil))) rfl ?_
     rintro _ _ ⟨n103, rfl⟩ hs _
     refine s_pu (p_move rfl) rfl ?_
     refine s_pu (p_extract rfl rfl) rfl ?_
     refine s_pu (p_extract rfl rfl) rfl ?_
     refine s_pu (p_assign rfl) rfl ?_
     refine s_pu (p_assign rfl) rfl ?_
     refine WL_th ?_
     refine W_seq ?_
     refine W_sr ?_
     refine s_pu (p_move rfl) rfl ?_
     refine s_pu (p_not rfl) rfl ?_
     refine WL_th ?_
     refine W_if rfl (fun h107 => ?_) (fun h107 => ?_)
     ·
      refine W_sr ?_
      refine s_pu (p_move rfl) rfl ?_
      refine s_pu (p_move rfl) rfl ?_
      refine s_pu (p_move rfl) rfl ?_
      refine s_pu (p_assign rfl) rfl ?_
      refine s_pu (p_assign rfl) rfl ?_
      refine s_pu (p_assign rfl) rfl ?_
      refine WL_th ?_
      refine W_forget (Ext.cd 2 rfl (Ext.cd 3 rfl (Ext.cd 4 rfl (Ext.nil _)))) ?_
      refine W_ret ?_
      refine th_ret ?_
      refine th_ret ?_
      refine ret_tmp3 (fn := Tryz.f117) rfl rfl rfl rfl ?_
      exact hs.spec ⟨⟨_, rfl⟩, rfl⟩
     ·
      refine W_skip_th ?_
      refine W_sr ?_
      refine s_pu (p_move rfl) rfl ?_
      refine s_pu (p_addW rfl rfl) rfl ?_
      refine s_pu (p_move rfl) rfl ?_
      refine s_pu (p_move rfl) rfl ?_
      refine k_quiet (c_parseFloat64 _ ex _ hex1 hex2 _ (hR _ (hs.now .head))) hs (.cons rfl (.cons rfl (.cons rfl .nil))) rfl ?_
      rintro _ _ ⟨n116, rfl⟩ hs _
      refine s_pu (p_move rfl) rfl ?_
      refine s_pu (p_extract rfl rfl) rfl ?_
      refine s_pu (p_extract rfl rfl) rfl ?_
      refine s_pu (p_assign rfl) rfl ?_
      refine s_pu (p_assign rfl) rfl ?_
      refine WL_th ?_
      refine W_forget (Ext.cd 0 rfl (Ext.cd 3 rfl (Ext.cd 4 rfl (Ext.cd 19 rfl (Ext.cd 20 rfl (Ext.cd 21 rfl (Ext.nil _))))))) ?_
      refine W_sr ?_
      refine s_pu (p_move rfl) rfl ?_
      refine s_pu (p_move rfl) rfl ?_
      refine k_cmpF rfl rfl rfl rfl ?_
      intro c121
      refine WL_th ?_
      refine W_if rfl (fun h121 => ?_) (fun h121 => ?_)
      ·
       refine W_sr ?_
       refine s_pu (p_move rfl) rfl ?_
       refine s_pu (p_move rfl) rfl ?_
       refine s_pu (p_move rfl) rfl ?_
       refine s_pu (p_assign rfl) rfl ?_
       refine s_pu (p_assign rfl) rfl ?_
       refine s_pu (p_assign rfl) rfl ?_
       refine WL_th ?_
       refine W_ret ?_
       refine th_ret ?_
       refine ret_tmp3 (fn := Tryz.f117) rfl rfl rfl rfl ?_
       exact hs.spec ⟨⟨_, rfl⟩, rfl⟩
      ·
       refine W_skip_th ?_
       refine W_sr ?_
       refine k_alloc hs rfl ?_
       intro b23 _ hs
       refine WL_th ?_
       refine W_seq ?_
       refine W_sr ?_
       refine s_pu (p_move rfl) rfl ?_
       refine s_pu (p_move rfl) rfl ?_
       refine s_pu (p_subHi (by kernel_rfl) rfl rfl (by omega) (by omega)) rfl ?_
       rw [show s.extract 0 ((s.size : Nat) : Int).toNat = s by rw [Int.toNat_natCast]; exact ext_all s]
       have hs := hs.imp .head (pt_to (n := 804) (g := dC (fun _ => 0) (0 : Nat) 0 false false) z268_dC)
       refine k_spec [pt b23 268 804 (dC (fun _ => 0) (0 : Nat) 0 false false)] (c_set b23 s o p hF) hs (.cons rfl (.cons rfl .nil)) rfl ?_
       rintro _ _ _ ⟨rfl, x, nd, dp, ng2, hd1, hd2, hd3, hd4, hd5, rfl⟩ hs
       refine s_pu (p_not rfl) rfl ?_
       refine WL_th ?_
       refine W_forget (Ext.cd 3 rfl (Ext.cd 4 rfl (Ext.cd 23 rfl (Ext.cd 129 rfl (Ext.nil _))))) ?_
       refine W_false rfl ?_
       refine W_skip_th ?_
       refine W_sr ?_
       refine k_spec [pt b23 268 804 (dC x (nd : Nat) dp ng2 false), hold R] (c_floatBits b23 R hR x nd dp ng2 hd1 hd2 hd3 hd4 hd5) hs (.cons rfl (.cons rfl .nil)) rfl ?_
       rintro _ _ _ ⟨⟨n133, rfl⟩, f133, rfl⟩ hs
       refine s_pu (p_move rfl) rfl ?_
       refine s_pu (p_extract rfl rfl) rfl ?_
       refine s_pu (p_extract rfl rfl) rfl ?_
       refine s_pu (p_assign rfl) rfl ?_
       refine s_pu (p_assign rfl) rfl ?_
       refine WL_th ?_
       refine W_sr ?_
       refine s_pu (p_move rfl) rfl ?_
       refine s_pu (p_frombits rfl) rfl ?_
       refine s_pu (p_assign rfl) rfl ?_
       refine WL_th ?_
       refine W_seq ?_
       refine W_sr ?_
       refine s_pu (p_move rfl) rfl ?_
       refine WL_th ?_
       refine W_false rfl ?_
       refine W_skip_th ?_
       refine W_forget (Ext.cd 2 rfl (Ext.cd 3 rfl (Ext.cd 4 rfl (Ext.nil _)))) ?_
       refine W_sr ?_
       refine s_pu (p_move rfl) rfl ?_
       refine s_pu (p_move rfl) rfl ?_
       refine s_pu (p_move rfl) rfl ?_
       refine s_pu (p_assign rfl) rfl ?_
       refine s_pu (p_assign rfl) rfl ?_
       refine s_pu (p_assign rfl) rfl ?_
       refine WL_th ?_
       refine W_ret ?_
       refine ret_tmp3 (fn := Tryz.f117) rfl rfl rfl rfl ?_
       have hs := hs.front .t1
       have hs := St.cut (G1 := [_]) hs
       exact hs.spec ⟨⟨_, rfl⟩, rfl⟩
theorem c_atof64 (s : ByteArray) (o p : Nat) (hF : FT s o p) (w : World) (hG : GP w) : Quiet Tryz.prog 117 [.string s] w fun v => ∃ n, v = .tuple #[.float .f64 n, .int .i64 s.size, .nilIface] :=
 quiet_of (fun R hR => c_atof64s R hR s o p hF) w hG
end Go.Proofs.YtmalghopogngoaaGreatDoor
