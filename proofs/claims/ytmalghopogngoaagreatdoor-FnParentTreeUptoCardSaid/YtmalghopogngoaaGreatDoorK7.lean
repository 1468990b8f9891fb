/- A part of the proof that the parent of a node below the root is the node right above it (laws.FnParentTree), for all inputs of bulk at most 1048576 and the listed variables as the text lays them: part 7 of 16. -/
import Derived.Test.YtmalghopogngoaaGreatDoorK6
import Derived.Laws.IdiomStrings
import Derived.Laws.BytesArg
import Derived.Laws.Append
set_option linter.unusedVariables false
set_option linter.unusedSimpArgs false
namespace Go.Proofs.YtmalghopogngoaaGreatDoor.MW
open Go Go.RowKit
/-- The byte of a text at a place. -/
def bt (s : ByteArray) (i : Nat) : Nat := (s.data[i]?.getD 0).toNat
theorem bt_eq {s : ByteArray} {i : Nat} (h : i < s.size) : (s[i]'h).toNat = bt s i := by
 unfold bt
 have h' : i < s.data.size := h
 rw [Array.getElem?_eq_getElem h']
 rfl
theorem bt_extract {s : ByteArray} {a b i : Nat} (h : i < (s.extract a b).size) : bt (s.extract a b) i = bt s (a + i) := by
 unfold bt
 rw [ByteArray.data_extract, Array.getElem?_extract]
 rw [ByteArray.size_extract] at h
 have : s.data.size = s.size := rfl
 rw [if_pos (by omega)]
theorem toList_inj {s t : ByteArray} (h : (s.toList == t.toList) = true) : s = t := by
 have h := eq_of_beq h
 rw [ByteArray.toList_eq, ByteArray.toList_eq] at h
 obtain ⟨⟨s⟩⟩ := s
 obtain ⟨⟨t⟩⟩ := t
 simp only at h
 rw [h]
theorem p_indexB {P : Program} {N : Nat} {e : Env} {T : TypeId} {x y : Operand} {s : ByteArray} {k : IntKind} {i : Int} (hu : P.underlying T = some .string) (hx : evo e x = some (.string s)) (hy : evo e y = some (.int k i)) (h0 : 0 ≤ i) (h1 : i.toNat < s.size) :
  Pu P N e (.index T x y) (.int .u8 (bt s i.toNat)) := by
 rw [← bt_eq h1]
 exact p_indexS hu hx hy h0 h1
theorem size_ne {s : ByteArray} (h : (s.toList == (⟨#[]⟩ : ByteArray).toList) = false) : 0 < s.size := by
 rcases Nat.eq_zero_or_pos s.size with h0 | h0
 ·
  obtain ⟨d⟩ := s
  have : d = #[] := Array.eq_empty_of_size_eq_zero h0
  subst this
  rw [beq_self_eq_true] at h; cases h
 ·
  exact h0
def dig (n : Nat) : Prop := 48 ≤ n ∧ n ≤ 57
end Go.Proofs.YtmalghopogngoaaGreatDoor.MW
set_option linter.unusedVariables false
set_option linter.unusedSimpArgs false
set_option maxRecDepth 4000
namespace Go.Proofs.YtmalghopogngoaaGreatDoor
open Go Go.RowKit MW
theorem c_wrDigit2 (n : Int) (wI : World) : Quiet Tryz.prog 74 [.int .u8 n] wI fun v => v = .bool (decide (48 ≤ n) && decide (n ≤ 57)) := by
 have hs := St.startNone wI
 refine calls_W (args := [_]) Tryz.func74 rfl Tryz.ntmps74 rfl ?_
 refine W_sr ?_
 refine s_pu (p_assign rfl) rfl ?_
 refine WL_th ?_
 refine W_sr ?_
 refine s_pu (p_move rfl) rfl ?_
 refine s_pu (p_geI rfl rfl) rfl ?_
 refine s_pu (p_move rfl) rfl ?_
 refine WL_cutb 3 8 [] (fun b => b = (decide (48 ≤ n) && decide (n ≤ 57))) ?_ ?_
 ·
  refine s_bool 5 rfl (fun hb5 => ?_) (fun hb5 => ?_)
  ·
   refine g_take rfl rfl rfl ?_
   refine s_pu (p_move rfl) rfl ?_
   refine g_take rfl rfl rfl ?_
   refine s_pu (p_leI rfl rfl) rfl ?_
   refine s_pu (p_pickT rfl rfl) rfl ?_
   refine WL_th ⟨rfl, _, ?_, Ext.cons rfl ext_kn⟩
   rw [hb5]; rfl
  ·
   refine g_skip rfl rfl rfl rfl rfl ?_
   refine g_skip rfl rfl rfl rfl rfl ?_
   refine s_pu (p_pickF rfl rfl) rfl ?_
   refine WL_th ⟨rfl, _, ?_, Ext.cons rfl ext_kn⟩
   rw [hb5]; rfl
 ·
  intro b8 hb8
  refine WL_forget (Ext.cd 8 rfl (Ext.nil _)) ?_
  show WL _ _ _ (_ :: _) _ _ _
  refine s_pu (p_assign rfl) rfl ?_
  refine WL_th ?_
  refine W_ret ?_
  refine ret_tmp (fn := Tryz.f74) rfl rfl ?_
  exact ⟨by rw [hb8], hs.keep0⟩
theorem c_wrDigits (s : ByteArray) (lo hi : Int) (hsz : s.size ≤ 1000) (wI : World) : Quiet Tryz.prog 87 [.string s, .int .i64 lo, .int .i64 hi] wI fun v => ∃ b, v = .bool b ∧ (b = true → lo ≤ s.size ∧ (s.size : Int) ≤ hi ∧ ∀ i, i < s.size → dig (bt s i)) := by
 have hs := St.startNone wI
 refine calls_W (args := [_, _, _]) Tryz.func87 rfl Tryz.ntmps87 rfl ?_
 refine W_sr ?_
 refine s_pu (p_assign rfl) rfl ?_
 refine WL_th ?_
 refine W_seq ?_
 refine W_sr ?_
 refine s_pu (p_assign rfl) rfl ?_
 refine WL_th ?_
 refine W_block ?_
 refine W_loop (α := Nat) (fun x => (upd (upd (upd (upd emp 7 (.int .i64 x)) 2 (.int .i64 hi)) 1 (.int .i64 lo)) 0 (.string s))) (fun x w => x ≤ s.size ∧ (∀ i, i < x → dig (bt s i)) ∧ St wI (fun _ => False) w []) (fun x => s.size - x) 0 (Ext.cons rfl (Ext.cons rfl (Ext.cons rfl (Ext.cons rfl (Ext.nil _))))) ⟨Nat.zero_le _, fun i h => by omega, hs⟩ (fun x w hx => ?_)
 obtain ⟨hle, hall, hs⟩ := hx
 refine W_seq ?_
 refine W_sr ?_
 refine s_pu (p_move rfl) rfl ?_
 refine s_pu (p_move rfl) rfl ?_
 refine s_pu (p_lenS (by kernel_rfl) rfl) rfl ?_
 refine s_pu (p_ltI rfl rfl) rfl ?_
 refine WL_th ?_
 refine W_if rfl (fun h11 => ?_) (fun h11 => ?_)
 ·
  have hlt : x < s.size := by have := of_decide_eq_true h11; omega
  refine W_skip_th ?_
  refine W_seq ?_
  refine W_block ?_
  refine W_sr ?_
  refine s_pu (p_move rfl) rfl ?_
  refine s_pu (p_move rfl) rfl ?_
  refine s_pu (p_indexB (by kernel_rfl) rfl rfl ?_ ?_) rfl ?_
  ·
   omega
  ·
   (first | omega | (simp; omega))
  refine k_quiet (c_wrDigit2 _ _) hs (.cons rfl .nil) rfl ?_
  rintro _ _ rfl hs _
  refine s_pu (p_not rfl) rfl ?_
  refine WL_th ?_
  refine W_if rfl (fun h18 => ?_) (fun h18 => ?_)
  ·
   refine W_sr ?_
   refine s_pu (p_assign rfl) rfl ?_
   refine WL_th ?_
   refine W_forget (Ext.cd 6 rfl (Ext.nil _)) ?_
   refine W_ret ?_
   refine bl_ret ?_
   refine th_ret ?_
   refine th_ret ?_
   refine bl_ret ?_
   refine th_ret ?_
   refine ret_tmp (fn := Tryz.f87) rfl rfl ?_
   exact ⟨⟨_, rfl, fun h => by cases h⟩, hs.keep0⟩
  ·
   have hdx : dig (bt s x) := by rw [Int.toNat_natCast] at h18; simp only [Bool.not_eq_false', Bool.and_eq_true, decide_eq_true_eq] at h18; unfold dig; omega
   refine W_skip ?_
   show W _ _ _ _ _ _
   refine W_reg ?_
   refine s_pu (p_move rfl) rfl ?_
   refine s_pu (p_addI rfl rfl ?_) rfl ?_
   ·
    (first | assumption | omega)
   refine s_pu (p_assign rfl) rfl ?_
   refine WL_th ?_
   refine ⟨x + 1, (Ext.cons rfl (Ext.cons rfl (Ext.cons rfl (Ext.cons (by show some (Value.int .i64 ((x : Int) + 1)) = _; simp) (Ext.nil _))))), ⟨by omega, below_succ hall hdx, hs⟩, by omega⟩
 ·
  have hxe : x = s.size := by have := of_decide_eq_false h11; omega
  subst hxe
  refine W_exit ?_
  show W _ _ _ _ _ _
  refine W_sr ?_
  refine s_pu (p_move rfl) rfl ?_
  refine s_pu (p_lenS (by kernel_rfl) rfl) rfl ?_
  refine s_pu (p_move rfl) rfl ?_
  refine s_pu (p_geI rfl rfl) rfl ?_
  refine s_pu (p_move rfl) rfl ?_
  refine WL_cutb 5 28 [] (fun b => b = true → lo ≤ s.size ∧ (s.size : Int) ≤ hi) ?_ ?_
  ·
   refine s_bool 23 rfl (fun hb23 => ?_) (fun hb23 => ?_)
   ·
    refine g_take rfl rfl rfl ?_
    refine s_pu (p_move rfl) rfl ?_
    refine g_take rfl rfl rfl ?_
    refine s_pu (p_lenS (by kernel_rfl) rfl) rfl ?_
    refine g_take rfl rfl rfl ?_
    refine s_pu (p_move rfl) rfl ?_
    refine g_take rfl rfl rfl ?_
    refine s_pu (p_leI rfl rfl) rfl ?_
    refine s_pu (p_pickT rfl rfl) rfl ?_
    refine WL_th ⟨rfl, _, ?_, Ext.cons rfl ext_kn⟩
    exact fun h => ⟨of_decide_eq_true hb23, of_decide_eq_true h⟩
   ·
    refine g_skip rfl rfl rfl rfl rfl ?_
    refine g_skip rfl rfl rfl rfl rfl ?_
    refine g_skip rfl rfl rfl rfl rfl ?_
    refine g_skip rfl rfl rfl rfl rfl ?_
    refine s_pu (p_pickF rfl rfl) rfl ?_
    refine WL_th ⟨rfl, _, ?_, Ext.cons rfl ext_kn⟩
    exact fun h => by cases h
  ·
   intro b28 hb28
   refine WL_forget (Ext.cd 28 rfl (Ext.nil _)) ?_
   show WL _ _ _ (_ :: _) _ _ _
   refine s_pu (p_assign rfl) rfl ?_
   refine WL_th ?_
   refine W_ret ?_
   refine ret_tmp (fn := Tryz.f87) rfl rfl ?_
   exact ⟨⟨_, rfl, fun h => ⟨(hb28 h).1, (hb28 h).2, hall⟩⟩, hs.keep0⟩
theorem c_wrWithin (n : Int) (s : ByteArray) (hsz : s.size ≤ 1000) (wI : World) : Quiet Tryz.prog 101 [.int .u8 n, .string s] wI fun v => ∃ b, v = .bool b := by
 have hs := St.startNone wI
 refine calls_W (args := [_, _]) Tryz.func101 rfl Tryz.ntmps101 rfl ?_
 refine W_sr ?_
 refine s_pu (p_assign rfl) rfl ?_
 refine WL_th ?_
 refine W_seq ?_
 refine W_sr ?_
 refine s_pu (p_assign rfl) rfl ?_
 refine WL_th ?_
 refine W_block ?_
 refine W_loop (α := Nat) (fun x => (upd (upd (upd emp 5 (.int .i64 x)) 1 (.string s)) 0 (.int .u8 n))) (fun x w => x ≤ s.size ∧ St wI (fun _ => False) w []) (fun x => s.size - x) 0 (Ext.cons rfl (Ext.cons rfl (Ext.cons rfl (Ext.nil _)))) ⟨Nat.zero_le _, hs⟩ (fun x w hx => ?_)
 obtain ⟨hle, hs⟩ := hx
 refine W_seq ?_
 refine W_sr ?_
 refine s_pu (p_move rfl) rfl ?_
 refine s_pu (p_move rfl) rfl ?_
 refine s_pu (p_lenS (by kernel_rfl) rfl) rfl ?_
 refine s_pu (p_ltI rfl rfl) rfl ?_
 refine WL_th ?_
 refine W_if rfl (fun h9 => ?_) (fun h9 => ?_)
 ·
  have hlt : x < s.size := by have := of_decide_eq_true h9; omega
  refine W_skip_th ?_
  refine W_seq ?_
  refine W_block ?_
  refine W_sr ?_
  refine s_pu (p_move rfl) rfl ?_
  refine s_pu (p_move rfl) rfl ?_
  refine s_pu (p_indexB (by kernel_rfl) rfl rfl ?_ ?_) rfl ?_
  ·
   omega
  ·
   (first | omega | (simp; omega))
  refine s_pu (p_move rfl) rfl ?_
  refine s_pu (p_eqI rfl rfl) rfl ?_
  refine WL_th ?_
  refine W_if rfl (fun h16 => ?_) (fun h16 => ?_)
  ·
   refine W_sr ?_
   refine s_pu (p_assign rfl) rfl ?_
   refine WL_th ?_
   refine W_forget (Ext.cd 4 rfl (Ext.nil _)) ?_
   refine W_ret ?_
   refine bl_ret ?_
   refine th_ret ?_
   refine th_ret ?_
   refine bl_ret ?_
   refine th_ret ?_
   refine ret_tmp (fn := Tryz.f101) rfl rfl ?_
   exact ⟨⟨_, rfl⟩, hs.keep0⟩
  ·
   refine W_skip ?_
   show W _ _ _ _ _ _
   refine W_reg ?_
   refine s_pu (p_move rfl) rfl ?_
   refine s_pu (p_addI rfl rfl ?_) rfl ?_
   ·
    (first | assumption | omega)
   refine s_pu (p_assign rfl) rfl ?_
   refine WL_th ?_
   refine ⟨x + 1, (Ext.cons rfl (Ext.cons rfl (Ext.cons (by show some (Value.int .i64 ((x : Int) + 1)) = _; simp) (Ext.nil _)))), ⟨by omega, hs⟩, by omega⟩
 ·
  refine W_exit ?_
  show W _ _ _ _ _ _
  refine W_sr ?_
  refine s_pu (p_assign rfl) rfl ?_
  refine WL_th ?_
  refine W_ret ?_
  refine ret_tmp (fn := Tryz.f101) rfl rfl ?_
  exact ⟨⟨_, rfl⟩, hs.keep0⟩
theorem c_wrPrintable (s : ByteArray) (hsz : s.size ≤ 1000) (wI : World) : Quiet Tryz.prog 77 [.string s] wI fun v => ∃ b, v = .bool b := by
 have hs := St.startNone wI
 refine calls_W (args := [_]) Tryz.func77 rfl Tryz.ntmps77 rfl ?_
 refine W_sr ?_
 refine s_pu (p_assign rfl) rfl ?_
 refine WL_th ?_
 refine W_seq ?_
 refine W_sr ?_
 refine s_pu (p_assign rfl) rfl ?_
 refine WL_th ?_
 refine W_block ?_
 refine W_loop (α := Nat) (fun x => (upd (upd emp 3 (.int .i64 x)) 0 (.string s))) (fun x w => x ≤ s.size ∧ St wI (fun _ => False) w []) (fun x => s.size - x) 0 (Ext.cons rfl (Ext.cons rfl (Ext.nil _))) ⟨Nat.zero_le _, hs⟩ (fun x w hx => ?_)
 obtain ⟨hle, hs⟩ := hx
 refine W_seq ?_
 refine W_sr ?_
 refine s_pu (p_move rfl) rfl ?_
 refine s_pu (p_move rfl) rfl ?_
 refine s_pu (p_lenS (by kernel_rfl) rfl) rfl ?_
 refine s_pu (p_ltI rfl rfl) rfl ?_
 refine WL_th ?_
 refine W_if rfl (fun h7 => ?_) (fun h7 => ?_)
 ·
  have hlt : x < s.size := by have := of_decide_eq_true h7; omega
  refine W_skip_th ?_
  refine W_seq ?_
  refine W_block ?_
  refine W_sr ?_
  refine s_pu (p_move rfl) rfl ?_
  refine s_pu (p_move rfl) rfl ?_
  refine s_pu (p_indexB (by kernel_rfl) rfl rfl ?_ ?_) rfl ?_
  ·
   omega
  ·
   (first | omega | (simp; omega))
  refine s_pu (p_ltI rfl rfl) rfl ?_
  refine s_pu (p_move rfl) rfl ?_
  refine WL_cutb 5 19 [0, 3] (fun b => True) ?_ ?_
  ·
   refine s_bool 14 rfl (fun hb14 => ?_) (fun hb14 => ?_)
   ·
    refine g_skip rfl rfl rfl rfl rfl ?_
    refine g_skip rfl rfl rfl rfl rfl ?_
    refine g_skip rfl rfl rfl rfl rfl ?_
    refine g_skip rfl rfl rfl rfl rfl ?_
    refine s_pu (p_pickT rfl rfl) rfl ?_
    refine WL_th ⟨rfl, _, ?_, Ext.cons rfl (ext_kc rfl (ext_kc rfl ext_kn))⟩
    trivial
   ·
    refine g_take rfl rfl rfl ?_
    refine s_pu (p_move rfl) rfl ?_
    refine g_take rfl rfl rfl ?_
    refine s_pu (p_move rfl) rfl ?_
    refine g_take rfl rfl rfl ?_
    refine s_pu (p_indexB (by kernel_rfl) rfl rfl ?_ ?_) rfl ?_
    ·
     omega
    ·
     (first | omega | (simp; omega))
    refine g_take rfl rfl rfl ?_
    refine s_pu (p_gtI rfl rfl) rfl ?_
    refine s_pu (p_pickF rfl rfl) rfl ?_
    refine WL_th ⟨rfl, _, ?_, Ext.cons rfl (ext_kc rfl (ext_kc rfl ext_kn))⟩
    trivial
  ·
   intro b19 hb19
   refine WL_forget (Ext.cd 0 rfl (Ext.cd 3 rfl (Ext.cd 19 rfl (Ext.nil _)))) ?_
   show WL _ _ _ [] _ _ _
   refine WL_th ?_
   refine W_if rfl (fun h19 => ?_) (fun h19 => ?_)
   ·
    refine W_sr ?_
    refine s_pu (p_assign rfl) rfl ?_
    refine WL_th ?_
    refine W_ret ?_
    refine bl_ret ?_
    refine th_ret ?_
    refine th_ret ?_
    refine bl_ret ?_
    refine th_ret ?_
    refine ret_tmp (fn := Tryz.f77) rfl rfl ?_
    exact ⟨⟨_, rfl⟩, hs.keep0⟩
   ·
    refine W_skip ?_
    show W _ _ _ _ _ _
    refine W_reg ?_
    refine s_pu (p_move rfl) rfl ?_
    refine s_pu (p_addI rfl rfl ?_) rfl ?_
    ·
     (first | assumption | omega)
    refine s_pu (p_assign rfl) rfl ?_
    refine WL_th ?_
    refine ⟨x + 1, (Ext.cons rfl (Ext.cons (by show some (Value.int .i64 ((x : Int) + 1)) = _; simp) (Ext.nil _))), ⟨by omega, hs⟩, by omega⟩
 ·
  refine W_exit ?_
  show W _ _ _ _ _ _
  refine W_sr ?_
  refine s_pu (p_assign rfl) rfl ?_
  refine WL_th ?_
  refine W_ret ?_
  refine ret_tmp (fn := Tryz.f77) rfl rfl ?_
  exact ⟨⟨_, rfl⟩, hs.keep0⟩
theorem c_wrAscii (s : ByteArray) (hsz : s.size ≤ 1000) (wI : World) : Quiet Tryz.prog 80 [.string s] wI fun v => ∃ b, v = .bool b := by
 have hs := St.startNone wI
 refine calls_W (args := [_]) Tryz.func80 rfl Tryz.ntmps80 rfl ?_
 refine W_sr ?_
 refine s_pu (p_assign rfl) rfl ?_
 refine WL_th ?_
 refine W_seq ?_
 refine W_sr ?_
 refine s_pu (p_assign rfl) rfl ?_
 refine WL_th ?_
 refine W_block ?_
 refine W_loop (α := Nat) (fun x => (upd (upd emp 3 (.int .i64 x)) 0 (.string s))) (fun x w => x ≤ s.size ∧ St wI (fun _ => False) w []) (fun x => s.size - x) 0 (Ext.cons rfl (Ext.cons rfl (Ext.nil _))) ⟨Nat.zero_le _, hs⟩ (fun x w hx => ?_)
 obtain ⟨hle, hs⟩ := hx
 refine W_seq ?_
 refine W_sr ?_
 refine s_pu (p_move rfl) rfl ?_
 refine s_pu (p_move rfl) rfl ?_
 refine s_pu (p_lenS (by kernel_rfl) rfl) rfl ?_
 refine s_pu (p_ltI rfl rfl) rfl ?_
 refine WL_th ?_
 refine W_if rfl (fun h7 => ?_) (fun h7 => ?_)
 ·
  have hlt : x < s.size := by have := of_decide_eq_true h7; omega
  refine W_skip_th ?_
  refine W_seq ?_
  refine W_block ?_
  refine W_sr ?_
  refine s_pu (p_move rfl) rfl ?_
  refine s_pu (p_move rfl) rfl ?_
  refine s_pu (p_indexB (by kernel_rfl) rfl rfl ?_ ?_) rfl ?_
  ·
   omega
  ·
   (first | omega | (simp; omega))
  refine s_pu (p_gtI rfl rfl) rfl ?_
  refine s_pu (p_move rfl) rfl ?_
  refine WL_cutb 23 37 [0, 3] (fun b => True) ?_ ?_
  ·
   refine s_bool 14 rfl (fun hb14 => ?_) (fun hb14 => ?_)
   ·
    refine g_skip rfl rfl rfl rfl rfl ?_
    refine g_skip rfl rfl rfl rfl rfl ?_
    refine g_skip rfl rfl rfl rfl rfl ?_
    refine g_skip rfl rfl rfl rfl rfl ?_
    refine g_skip rfl rfl rfl rfl rfl ?_
    refine g_skipU rfl rfl rfl rfl ?_
    refine g_skipU rfl rfl rfl rfl ?_
    refine g_skipU rfl rfl rfl rfl ?_
    refine g_skipU rfl rfl rfl rfl ?_
    refine g_skip rfl rfl rfl rfl rfl ?_
    refine g_skip rfl rfl rfl rfl rfl ?_
    refine g_skipU rfl rfl rfl rfl ?_
    refine g_skipU rfl rfl rfl rfl ?_
    refine g_skipU rfl rfl rfl rfl ?_
    refine g_skipU rfl rfl rfl rfl ?_
    refine g_skip rfl rfl rfl rfl rfl ?_
    refine g_skip rfl rfl rfl rfl rfl ?_
    refine g_skipU rfl rfl rfl rfl ?_
    refine g_skipU rfl rfl rfl rfl ?_
    refine g_skipU rfl rfl rfl rfl ?_
    refine g_skipU rfl rfl rfl rfl ?_
    refine g_skip rfl rfl rfl rfl rfl ?_
    refine s_pu (p_pickT rfl rfl) rfl ?_
    refine WL_th ⟨rfl, _, ?_, Ext.cons rfl (ext_kc rfl (ext_kc rfl ext_kn))⟩
    trivial
   ·
    refine g_take rfl rfl rfl ?_
    refine s_pu (p_move rfl) rfl ?_
    refine g_take rfl rfl rfl ?_
    refine s_pu (p_move rfl) rfl ?_
    refine g_take rfl rfl rfl ?_
    refine s_pu (p_indexB (by kernel_rfl) rfl rfl ?_ ?_) rfl ?_
    ·
     omega
    ·
     (first | omega | (simp; omega))
    refine g_take rfl rfl rfl ?_
    refine s_pu (p_ltI rfl rfl) rfl ?_
    refine g_take rfl rfl rfl ?_
    refine s_pu (p_move rfl) rfl ?_
    refine s_bool 19 rfl (fun hb19 => ?_) (fun hb19 => ?_)
    ·
     refine g_take rfl rfl rfl ?_
     refine s_pu (p_move rfl) rfl ?_
     refine g_take rfl rfl rfl ?_
     refine s_pu (p_move rfl) rfl ?_
     refine g_take rfl rfl rfl ?_
     refine s_pu (p_indexB (by kernel_rfl) rfl rfl ?_ ?_) rfl ?_
     ·
      omega
     ·
      (first | omega | (simp; omega))
     refine g_take rfl rfl rfl ?_
     refine s_pu (p_neI rfl rfl) rfl ?_
     refine g_take rfl rfl rfl ?_
     refine s_pu (p_pickT rfl rfl) rfl ?_
     refine g_take rfl rfl rfl ?_
     refine s_pu (p_move rfl) rfl ?_
     refine s_bool 25 rfl (fun hb25 => ?_) (fun hb25 => ?_)
     ·
      refine g_take rfl rfl rfl ?_
      refine s_pu (p_move rfl) rfl ?_
      refine g_take rfl rfl rfl ?_
      refine s_pu (p_move rfl) rfl ?_
      refine g_take rfl rfl rfl ?_
      refine s_pu (p_indexB (by kernel_rfl) rfl rfl ?_ ?_) rfl ?_
      ·
       omega
      ·
       (first | omega | (simp; omega))
      refine g_take rfl rfl rfl ?_
      refine s_pu (p_neI rfl rfl) rfl ?_
      refine g_take rfl rfl rfl ?_
      refine s_pu (p_pickT rfl rfl) rfl ?_
      refine g_take rfl rfl rfl ?_
      refine s_pu (p_move rfl) rfl ?_
      refine s_bool 31 rfl (fun hb31 => ?_) (fun hb31 => ?_)
      ·
       refine g_take rfl rfl rfl ?_
       refine s_pu (p_move rfl) rfl ?_
       refine g_take rfl rfl rfl ?_
       refine s_pu (p_move rfl) rfl ?_
       refine g_take rfl rfl rfl ?_
       refine s_pu (p_indexB (by kernel_rfl) rfl rfl ?_ ?_) rfl ?_
       ·
        omega
       ·
        (first | omega | (simp; omega))
       refine g_take rfl rfl rfl ?_
       refine s_pu (p_neI rfl rfl) rfl ?_
       refine g_take rfl rfl rfl ?_
       refine s_pu (p_pickT rfl rfl) rfl ?_
       refine s_pu (p_pickF rfl rfl) rfl ?_
       refine WL_th ⟨rfl, _, ?_, Ext.cons rfl (ext_kc rfl (ext_kc rfl ext_kn))⟩
       trivial
      ·
       refine g_skip rfl rfl rfl rfl rfl ?_
       refine g_skip rfl rfl rfl rfl rfl ?_
       refine g_skip rfl rfl rfl rfl rfl ?_
       refine g_skip rfl rfl rfl rfl rfl ?_
       refine g_take rfl rfl rfl ?_
       refine s_pu (p_pickF rfl rfl) rfl ?_
       refine s_pu (p_pickF rfl rfl) rfl ?_
       refine WL_th ⟨rfl, _, ?_, Ext.cons rfl (ext_kc rfl (ext_kc rfl ext_kn))⟩
       trivial
     ·
      refine g_skip rfl rfl rfl rfl rfl ?_
      refine g_skip rfl rfl rfl rfl rfl ?_
      refine g_skip rfl rfl rfl rfl rfl ?_
      refine g_skip rfl rfl rfl rfl rfl ?_
      refine g_take rfl rfl rfl ?_
      refine s_pu (p_pickF rfl rfl) rfl ?_
      refine g_take rfl rfl rfl ?_
      refine s_pu (p_move rfl) rfl ?_
      refine s_bool 31 rfl (fun hb31 => ?_) (fun hb31 => ?_)
      ·
       refine g_take rfl rfl rfl ?_
       refine s_pu (p_move rfl) rfl ?_
       refine g_take rfl rfl rfl ?_
       refine s_pu (p_move rfl) rfl ?_
       refine g_take rfl rfl rfl ?_
       refine s_pu (p_indexB (by kernel_rfl) rfl rfl ?_ ?_) rfl ?_
       ·
        omega
       ·
        (first | omega | (simp; omega))
       refine g_take rfl rfl rfl ?_
       refine s_pu (p_neI rfl rfl) rfl ?_
       refine g_take rfl rfl rfl ?_
       refine s_pu (p_pickT rfl rfl) rfl ?_
       refine s_pu (p_pickF rfl rfl) rfl ?_
       refine WL_th ⟨rfl, _, ?_, Ext.cons rfl (ext_kc rfl (ext_kc rfl ext_kn))⟩
       trivial
      ·
       refine g_skip rfl rfl rfl rfl rfl ?_
       refine g_skip rfl rfl rfl rfl rfl ?_
       refine g_skip rfl rfl rfl rfl rfl ?_
       refine g_skip rfl rfl rfl rfl rfl ?_
       refine g_take rfl rfl rfl ?_
       refine s_pu (p_pickF rfl rfl) rfl ?_
       refine s_pu (p_pickF rfl rfl) rfl ?_
       refine WL_th ⟨rfl, _, ?_, Ext.cons rfl (ext_kc rfl (ext_kc rfl ext_kn))⟩
       trivial
    ·
     refine g_skip rfl rfl rfl rfl rfl ?_
     refine g_skip rfl rfl rfl rfl rfl ?_
     refine g_skip rfl rfl rfl rfl rfl ?_
     refine g_skip rfl rfl rfl rfl rfl ?_
     refine g_take rfl rfl rfl ?_
     refine s_pu (p_pickF rfl rfl) rfl ?_
     refine g_take rfl rfl rfl ?_
     refine s_pu (p_move rfl) rfl ?_
     refine s_bool 25 rfl (fun hb25 => ?_) (fun hb25 => ?_)
     ·
      refine g_take rfl rfl rfl ?_
      refine s_pu (p_move rfl) rfl ?_
      refine g_take rfl rfl rfl ?_
      refine s_pu (p_move rfl) rfl ?_
      refine g_take rfl rfl rfl ?_
      refine s_pu (p_indexB (by kernel_rfl) rfl rfl ?_ ?_) rfl ?_
      ·
       omega
      ·
       (first | omega | (simp; omega))
      refine g_take rfl rfl rfl ?_
      refine s_pu (p_neI rfl rfl) rfl ?_
      refine g_take rfl rfl rfl ?_
      refine s_pu (p_pickT rfl rfl) rfl ?_
      refine g_take rfl rfl rfl ?_
      refine s_pu (p_move rfl) rfl ?_
      refine s_bool 31 rfl (fun hb31 => ?_) (fun hb31 => ?_)
      ·
       refine g_take rfl rfl rfl ?_
       refine s_pu (p_move rfl) rfl ?_
       refine g_take rfl rfl rfl ?_
       refine s_pu (p_move rfl) rfl ?_
       refine g_take rfl rfl rfl ?_
       refine s_pu (p_indexB (by kernel_rfl) rfl rfl ?_ ?_) rfl ?_
       ·
        omega
       ·
        (first | omega | (simp; omega))
       refine g_take rfl rfl rfl ?_
       refine s_pu (p_neI rfl rfl) rfl ?_
       refine g_take rfl rfl rfl ?_
       refine s_pu (p_pickT rfl rfl) rfl ?_
       refine s_pu (p_pickF rfl rfl) rfl ?_
       refine WL_th ⟨rfl, _, ?_, Ext.cons rfl (ext_kc rfl (ext_kc rfl ext_kn))⟩
       trivial
      ·
       refine g_skip rfl rfl rfl rfl rfl ?_
       refine g_skip rfl rfl rfl rfl rfl ?_
       refine g_skip rfl rfl rfl rfl rfl ?_
       refine g_skip rfl rfl rfl rfl rfl ?_
       refine g_take rfl rfl rfl ?_
       refine s_pu (p_pickF rfl rfl) rfl ?_
       refine s_pu (p_pickF rfl rfl) rfl ?_
       refine WL_th ⟨rfl, _, ?_, Ext.cons rfl (ext_kc rfl (ext_kc rfl ext_kn))⟩
       trivial
     ·
      refine g_skip rfl rfl rfl rfl rfl ?_
      refine g_skip rfl rfl rfl rfl rfl ?_
      refine g_skip rfl rfl rfl rfl rfl ?_
      refine g_skip rfl rfl rfl rfl rfl ?_
      refine g_take rfl rfl rfl ?_
      refine s_pu (p_pickF rfl rfl) rfl ?_
      refine g_take rfl rfl rfl ?_
      refine s_pu (p_move rfl) rfl ?_
      refine s_bool 31 rfl (fun hb31 => ?_) (fun hb31 => ?_)
      ·
       refine g_take rfl rfl rfl ?_
       refine s_pu (p_move rfl) rfl ?_
       refine g_take rfl rfl rfl ?_
       refine s_pu (p_move rfl) rfl ?_
       refine g_take rfl rfl rfl ?_
       refine s_pu (p_indexB (by kernel_rfl) rfl rfl ?_ ?_) rfl ?_
       ·
        omega
       ·
        (first | omega | (simp; omega))
       refine g_take rfl rfl rfl ?_
       refine s_pu (p_neI rfl rfl) rfl ?_
       refine g_take rfl rfl rfl ?_
       refine s_pu (p_pickT rfl rfl) rfl ?_
       refine s_pu (p_pickF rfl rfl) rfl ?_
       refine WL_th ⟨rfl, _, ?_, Ext.cons rfl (ext_kc rfl (ext_kc rfl ext_kn))⟩
       trivial
      ·
       refine g_skip rfl rfl rfl rfl rfl ?_
       refine g_skip rfl rfl rfl rfl rfl ?_
       refine g_skip rfl rfl rfl rfl rfl ?_
       refine g_skip rfl rfl rfl rfl rfl ?_
       refine g_take rfl rfl rfl ?_
       refine s_pu (p_pickF rfl rfl) rfl ?_
       refine s_pu (p_pickF rfl rfl) rfl ?_
       refine WL_th ⟨rfl, _, ?_, Ext.cons rfl (ext_kc rfl (ext_kc rfl ext_kn))⟩
       trivial
  ·
   intro b37 hb37
   refine WL_forget (Ext.cd 0 rfl (Ext.cd 3 rfl (Ext.cd 37 rfl (Ext.nil _)))) ?_
   show WL _ _ _ [] _ _ _
   refine WL_th ?_
   refine W_if rfl (fun h37 => ?_) (fun h37 => ?_)
   ·
    refine W_sr ?_
    refine s_pu (p_assign rfl) rfl ?_
    refine WL_th ?_
    refine W_ret ?_
    refine bl_ret ?_
    refine th_ret ?_
    refine th_ret ?_
    refine bl_ret ?_
    refine th_ret ?_
    refine ret_tmp (fn := Tryz.f80) rfl rfl ?_
    exact ⟨⟨_, rfl⟩, hs.keep0⟩
   ·
    refine W_skip ?_
    show W _ _ _ _ _ _
    refine W_reg ?_
    refine s_pu (p_move rfl) rfl ?_
    refine s_pu (p_addI rfl rfl ?_) rfl ?_
    ·
     (first | assumption | omega)
    refine s_pu (p_assign rfl) rfl ?_
    refine WL_th ?_
    refine ⟨x + 1, (Ext.cons rfl (Ext.cons (by show some (Value.int .i64 ((x : Int) + 1)) = _; simp) (Ext.nil _))), ⟨by omega, hs⟩, by omega⟩
 ·
  refine W_exit ?_
  show W _ _ _ _ _ _
  refine W_sr ?_
  refine s_pu (p_assign rfl) rfl ?_
  refine WL_th ?_
  refine W_ret ?_
  refine ret_tmp (fn := Tryz.f80) rfl rfl ?_
  exact ⟨⟨_, rfl⟩, hs.keep0⟩
theorem c_wrBlocky (s : ByteArray) (hsz : s.size ≤ 1000) (wI : World) : Quiet Tryz.prog 78 [.string s] wI fun v => ∃ b, v = .bool b := by
 have hs := St.startNone wI
 refine calls_W (args := [_]) Tryz.func78 rfl Tryz.ntmps78 rfl ?_
 refine W_sr ?_
 refine s_pu (p_assign rfl) rfl ?_
 refine WL_th ?_
 refine W_seq ?_
 refine W_sr ?_
 refine s_pu (p_move rfl) rfl ?_
 refine s_pu (p_eqS rfl rfl) rfl ?_
 refine s_pu (p_move rfl) rfl ?_
 refine WL_cutb 4 10 [0] (fun b => b = false → 0 < s.size) ?_ ?_
 ·
  refine s_bool 6 rfl (fun hb6 => ?_) (fun hb6 => ?_)
  ·
   refine g_skip rfl rfl rfl rfl rfl ?_
   refine g_skip rfl rfl rfl rfl rfl ?_
   refine g_skip rfl rfl rfl rfl rfl ?_
   refine s_pu (p_pickT rfl rfl) rfl ?_
   refine WL_th ⟨rfl, _, ?_, Ext.cons rfl (ext_kc rfl ext_kn)⟩
   exact fun h => by cases h
  ·
   have hs0 := size_ne hb6
   refine g_take rfl rfl rfl ?_
   refine s_pu (p_move rfl) rfl ?_
   refine g_take rfl rfl rfl ?_
   refine s_pu (p_indexB (by kernel_rfl) rfl rfl ?_ ?_) rfl ?_
   ·
    omega
   ·
    (first | omega | (simp; omega))
   refine g_take rfl rfl rfl ?_
   refine s_pu (p_eqI rfl rfl) rfl ?_
   refine s_pu (p_pickF rfl rfl) rfl ?_
   refine WL_th ⟨rfl, _, ?_, Ext.cons rfl (ext_kc rfl ext_kn)⟩
   exact fun _ => size_ne hb6
 ·
  intro b10 hb10
  refine WL_forget (Ext.cd 0 rfl (Ext.cd 10 rfl (Ext.nil _))) ?_
  show WL _ _ _ (_ :: _) _ _ _
  refine s_pu (p_move rfl) rfl ?_
  refine WL_cutb 4 15 [0] (fun b => b = false → 0 < s.size) ?_ ?_
  ·
   refine s_bool 11 rfl (fun hb11 => ?_) (fun hb11 => ?_)
   ·
    refine g_skip rfl rfl rfl rfl rfl ?_
    refine g_skip rfl rfl rfl rfl rfl ?_
    refine g_skip rfl rfl rfl rfl rfl ?_
    refine s_pu (p_pickT rfl rfl) rfl ?_
    refine WL_th ⟨rfl, _, ?_, Ext.cons rfl (ext_kc rfl ext_kn)⟩
    exact fun h => by cases h
   ·
    have hs0 := hb10 hb11
    refine g_take rfl rfl rfl ?_
    refine s_pu (p_move rfl) rfl ?_
    refine g_take rfl rfl rfl ?_
    refine s_pu (p_indexB (by kernel_rfl) rfl rfl ?_ ?_) rfl ?_
    ·
     omega
    ·
     (first | omega | (simp; omega))
    refine g_take rfl rfl rfl ?_
    refine s_pu (p_eqI rfl rfl) rfl ?_
    refine s_pu (p_pickF rfl rfl) rfl ?_
    refine WL_th ⟨rfl, _, ?_, Ext.cons rfl (ext_kc rfl ext_kn)⟩
    exact fun _ => hs0
  ·
   intro b15 hb15
   refine WL_forget (Ext.cd 0 rfl (Ext.cd 15 rfl (Ext.nil _))) ?_
   show WL _ _ _ (_ :: _) _ _ _
   refine s_pu (p_move rfl) rfl ?_
   refine WL_cutb 20 36 [0] (fun b => True) ?_ ?_
   ·
    refine s_bool 16 rfl (fun hb16 => ?_) (fun hb16 => ?_)
    ·
     refine g_skip rfl rfl rfl rfl rfl ?_
     refine g_skip rfl rfl rfl rfl rfl ?_
     refine g_skip rfl rfl rfl rfl rfl ?_
     refine g_skip rfl rfl rfl rfl rfl ?_
     refine g_skipU rfl rfl rfl rfl ?_
     refine g_skipU rfl rfl rfl rfl ?_
     refine g_skipU rfl rfl rfl rfl ?_
     refine g_skipU rfl rfl rfl rfl ?_
     refine g_skipU rfl rfl rfl rfl ?_
     refine g_skipU rfl rfl rfl rfl ?_
     refine g_skip rfl rfl rfl rfl rfl ?_
     refine g_skip rfl rfl rfl rfl rfl ?_
     refine g_skipU rfl rfl rfl rfl ?_
     refine g_skipU rfl rfl rfl rfl ?_
     refine g_skipU rfl rfl rfl rfl ?_
     refine g_skipU rfl rfl rfl rfl ?_
     refine g_skipU rfl rfl rfl rfl ?_
     refine g_skipU rfl rfl rfl rfl ?_
     refine g_skip rfl rfl rfl rfl rfl ?_
     refine s_pu (p_pickT rfl rfl) rfl ?_
     refine WL_th ⟨rfl, _, ?_, Ext.cons rfl (ext_kc rfl ext_kn)⟩
     trivial
    ·
     have hs0 := hb15 hb16
     refine g_take rfl rfl rfl ?_
     refine s_pu (p_move rfl) rfl ?_
     refine g_take rfl rfl rfl ?_
     refine s_pu (p_lenS (by kernel_rfl) rfl) rfl ?_
     refine g_take rfl rfl rfl ?_
     refine s_pu (p_gtI rfl rfl) rfl ?_
     refine g_take rfl rfl rfl ?_
     refine s_pu (p_move rfl) rfl ?_
     refine s_bool 20 rfl (fun hb20 => ?_) (fun hb20 => ?_)
     ·
      have hs1 := of_decide_eq_true hb20
      refine g_take rfl rfl rfl ?_
      refine s_pu (p_move rfl) rfl ?_
      refine g_take rfl rfl rfl ?_
      refine s_pu (p_move rfl) rfl ?_
      refine g_take rfl rfl rfl ?_
      refine s_pu (p_lenS (by kernel_rfl) rfl) rfl ?_
      refine g_take rfl rfl rfl ?_
      refine s_pu (p_subI rfl rfl ?_) rfl ?_
      ·
       (first | assumption | omega)
      refine g_take rfl rfl rfl ?_
      refine s_pu (p_indexB (by kernel_rfl) rfl rfl ?_ ?_) rfl ?_
      ·
       omega
      ·
       (first | omega | (simp; omega))
      refine g_take rfl rfl rfl ?_
      refine s_pu (p_eqI rfl rfl) rfl ?_
      refine g_take rfl rfl rfl ?_
      refine s_pu (p_pickT rfl rfl) rfl ?_
      refine g_take rfl rfl rfl ?_
      refine s_pu (p_move rfl) rfl ?_
      refine s_bool 28 rfl (fun hb28 => ?_) (fun hb28 => ?_)
      ·
       refine g_take rfl rfl rfl ?_
       refine s_pu (p_move rfl) rfl ?_
       refine g_take rfl rfl rfl ?_
       refine s_pu (p_move rfl) rfl ?_
       refine g_take rfl rfl rfl ?_
       refine s_pu (p_lenS (by kernel_rfl) rfl) rfl ?_
       refine g_take rfl rfl rfl ?_
       refine s_pu (p_subI rfl rfl ?_) rfl ?_
       ·
        (first | assumption | omega)
       refine g_take rfl rfl rfl ?_
       refine s_pu (p_indexB (by kernel_rfl) rfl rfl ?_ ?_) rfl ?_
       ·
        (first | omega | (exfalso; cases hb28))
       ·
        (first | omega | (exfalso; cases hb28))
       refine g_take rfl rfl rfl ?_
       refine s_pu (p_eqI rfl rfl) rfl ?_
       refine g_take rfl rfl rfl ?_
       refine s_pu (p_pickT rfl rfl) rfl ?_
       refine s_pu (p_pickF rfl rfl) rfl ?_
       refine WL_th ⟨rfl, _, ?_, Ext.cons rfl (ext_kc rfl ext_kn)⟩
       trivial
      ·
       refine g_skip rfl rfl rfl rfl rfl ?_
       refine g_skip rfl rfl rfl rfl rfl ?_
       refine g_skip rfl rfl rfl rfl rfl ?_
       refine g_skip rfl rfl rfl rfl rfl ?_
       refine g_skip rfl rfl rfl rfl rfl ?_
       refine g_skip rfl rfl rfl rfl rfl ?_
       refine g_take rfl rfl rfl ?_
       refine s_pu (p_pickF rfl rfl) rfl ?_
       refine s_pu (p_pickF rfl rfl) rfl ?_
       refine WL_th ⟨rfl, _, ?_, Ext.cons rfl (ext_kc rfl ext_kn)⟩
       trivial
     ·
      refine g_skip rfl rfl rfl rfl rfl ?_
      refine g_skip rfl rfl rfl rfl rfl ?_
      refine g_skip rfl rfl rfl rfl rfl ?_
      refine g_skip rfl rfl rfl rfl rfl ?_
      refine g_skip rfl rfl rfl rfl rfl ?_
      refine g_skip rfl rfl rfl rfl rfl ?_
      refine g_take rfl rfl rfl ?_
      refine s_pu (p_pickF rfl rfl) rfl ?_
      refine g_take rfl rfl rfl ?_
      refine s_pu (p_move rfl) rfl ?_
      refine s_bool 28 rfl (fun hb28 => ?_) (fun hb28 => ?_)
      ·
       refine g_take rfl rfl rfl ?_
       refine s_pu (p_move rfl) rfl ?_
       refine g_take rfl rfl rfl ?_
       refine s_pu (p_move rfl) rfl ?_
       refine g_take rfl rfl rfl ?_
       refine s_pu (p_lenS (by kernel_rfl) rfl) rfl ?_
       refine g_take rfl rfl rfl ?_
       refine s_pu (p_subI rfl rfl ?_) rfl ?_
       ·
        (first | assumption | omega)
       refine g_take rfl rfl rfl ?_
       refine s_pu (p_indexB (by kernel_rfl) rfl rfl ?_ ?_) rfl ?_
       ·
        (first | omega | (exfalso; cases hb28))
       ·
        (first | omega | (exfalso; cases hb28))
       refine g_take rfl rfl rfl ?_
       refine s_pu (p_eqI rfl rfl) rfl ?_
       refine g_take rfl rfl rfl ?_
       refine s_pu (p_pickT rfl rfl) rfl ?_
       refine s_pu (p_pickF rfl rfl) rfl ?_
       refine WL_th ⟨rfl, _, ?_, Ext.cons rfl (ext_kc rfl ext_kn)⟩
       trivial
      ·
       refine g_skip rfl rfl rfl rfl rfl ?_
       refine g_skip rfl rfl rfl rfl rfl ?_
       refine g_skip rfl rfl rfl rfl rfl ?_
       refine g_skip rfl rfl rfl rfl rfl ?_
       refine g_skip rfl rfl rfl rfl rfl ?_
       refine g_skip rfl rfl rfl rfl rfl ?_
       refine g_take rfl rfl rfl ?_
       refine s_pu (p_pickF rfl rfl) rfl ?_
       refine s_pu (p_pickF rfl rfl) rfl ?_
       refine WL_th ⟨rfl, _, ?_, Ext.cons rfl (ext_kc rfl ext_kn)⟩
       trivial
   ·
    intro b36 hb36
    refine WL_forget (Ext.cd 0 rfl (Ext.cd 36 rfl (Ext.nil _))) ?_
    show WL _ _ _ [] _ _ _
    refine WL_th ?_
    refine W_if rfl (fun h36 => ?_) (fun h36 => ?_)
    ·
     refine W_sr ?_
     refine s_pu (p_assign rfl) rfl ?_
     refine WL_th ?_
     refine W_ret ?_
     refine th_ret ?_
     refine ret_tmp (fn := Tryz.f78) rfl rfl ?_
     exact ⟨⟨_, rfl⟩, hs.keep0⟩
    ·
     refine W_skip_th ?_
     refine W_seq ?_
     refine W_sr ?_
     refine s_pu (p_assign rfl) rfl ?_
     refine WL_th ?_
     refine W_block ?_
     refine W_loop (α := Nat) (fun x => (upd (upd emp 3 (.int .i64 x)) 0 (.string s))) (fun x w => x ≤ s.size ∧ St wI (fun _ => False) w []) (fun x => s.size - x) 0 (Ext.cons rfl (Ext.cons rfl (Ext.nil _))) ⟨Nat.zero_le _, hs⟩ (fun x w hx => ?_)
     obtain ⟨hle, hs⟩ := hx
     refine W_seq ?_
     refine W_sr ?_
     refine s_pu (p_move rfl) rfl ?_
     refine s_pu (p_move rfl) rfl ?_
     refine s_pu (p_lenS (by kernel_rfl) rfl) rfl ?_
     refine s_pu (p_ltI rfl rfl) rfl ?_
     refine WL_th ?_
     refine W_if rfl (fun h40 => ?_) (fun h40 => ?_)
     ·
      have hlt : x < s.size := by have := of_decide_eq_true h40; omega
      refine W_skip_th ?_
      refine W_seq ?_
      refine W_block ?_
      refine W_sr ?_
      refine s_pu (p_move rfl) rfl ?_
      refine s_pu (p_move rfl) rfl ?_
      refine s_pu (p_indexB (by kernel_rfl) rfl rfl ?_ ?_) rfl ?_
      ·
       omega
      ·
       (first | omega | (simp; omega))
      refine s_pu (p_neI rfl rfl) rfl ?_
      refine s_pu (p_move rfl) rfl ?_
      refine WL_cutb 11 58 [0, 3] (fun b => True) ?_ ?_
      ·
       refine s_bool 47 rfl (fun hb47 => ?_) (fun hb47 => ?_)
       ·
        refine g_take rfl rfl rfl ?_
        refine s_pu (p_move rfl) rfl ?_
        refine g_take rfl rfl rfl ?_
        refine s_pu (p_move rfl) rfl ?_
        refine g_take rfl rfl rfl ?_
        refine s_pu (p_indexB (by kernel_rfl) rfl rfl ?_ ?_) rfl ?_
        ·
         omega
        ·
         (first | omega | (simp; omega))
        refine g_take rfl rfl rfl ?_
        refine s_pu (p_ltI rfl rfl) rfl ?_
        refine g_take rfl rfl rfl ?_
        refine s_pu (p_move rfl) rfl ?_
        refine s_bool 52 rfl (fun hb52 => ?_) (fun hb52 => ?_)
        ·
         refine g_skip rfl rfl rfl rfl rfl ?_
         refine g_skip rfl rfl rfl rfl rfl ?_
         refine g_skip rfl rfl rfl rfl rfl ?_
         refine g_skip rfl rfl rfl rfl rfl ?_
         refine g_take rfl rfl rfl ?_
         refine s_pu (p_pickT rfl rfl) rfl ?_
         refine s_pu (p_pickT rfl rfl) rfl ?_
         refine WL_th ⟨rfl, _, ?_, Ext.cons rfl (ext_kc rfl (ext_kc rfl ext_kn))⟩
         trivial
        ·
         refine g_take rfl rfl rfl ?_
         refine s_pu (p_move rfl) rfl ?_
         refine g_take rfl rfl rfl ?_
         refine s_pu (p_move rfl) rfl ?_
         refine g_take rfl rfl rfl ?_
         refine s_pu (p_indexB (by kernel_rfl) rfl rfl ?_ ?_) rfl ?_
         ·
          omega
         ·
          (first | omega | (simp; omega))
         refine g_take rfl rfl rfl ?_
         refine s_pu (p_gtI rfl rfl) rfl ?_
         refine g_take rfl rfl rfl ?_
         refine s_pu (p_pickF rfl rfl) rfl ?_
         refine s_pu (p_pickT rfl rfl) rfl ?_
         refine WL_th ⟨rfl, _, ?_, Ext.cons rfl (ext_kc rfl (ext_kc rfl ext_kn))⟩
         trivial
       ·
        refine g_skip rfl rfl rfl rfl rfl ?_
        refine g_skip rfl rfl rfl rfl rfl ?_
        refine g_skip rfl rfl rfl rfl rfl ?_
        refine g_skip rfl rfl rfl rfl rfl ?_
        refine g_skip rfl rfl rfl rfl rfl ?_
        refine g_skipU rfl rfl rfl rfl ?_
        refine g_skipU rfl rfl rfl rfl ?_
        refine g_skipU rfl rfl rfl rfl ?_
        refine g_skipU rfl rfl rfl rfl ?_
        refine g_skip rfl rfl rfl rfl rfl ?_
        refine s_pu (p_pickF rfl rfl) rfl ?_
        refine WL_th ⟨rfl, _, ?_, Ext.cons rfl (ext_kc rfl (ext_kc rfl ext_kn))⟩
        trivial
      ·
       intro b58 hb58
       refine WL_forget (Ext.cd 0 rfl (Ext.cd 3 rfl (Ext.cd 58 rfl (Ext.nil _)))) ?_
       show WL _ _ _ (_ :: _) _ _ _
       refine s_pu (p_move rfl) rfl ?_
       refine WL_cutb 19 78 [0, 3] (fun b => True) ?_ ?_
       ·
        refine s_bool 59 rfl (fun hb59 => ?_) (fun hb59 => ?_)
        ·
         refine g_skip rfl rfl rfl rfl rfl ?_
         refine g_skip rfl rfl rfl rfl rfl ?_
         refine g_skip rfl rfl rfl rfl rfl ?_
         refine g_skip rfl rfl rfl rfl rfl ?_
         refine g_skip rfl rfl rfl rfl rfl ?_
         refine g_skipU rfl rfl rfl rfl ?_
         refine g_skipU rfl rfl rfl rfl ?_
         refine g_skipU rfl rfl rfl rfl ?_
         refine g_skipU rfl rfl rfl rfl ?_
         refine g_skipU rfl rfl rfl rfl ?_
         refine g_skipU rfl rfl rfl rfl ?_
         refine g_skipU rfl rfl rfl rfl ?_
         refine g_skipU rfl rfl rfl rfl ?_
         refine g_skipU rfl rfl rfl rfl ?_
         refine g_skipU rfl rfl rfl rfl ?_
         refine g_skipU rfl rfl rfl rfl ?_
         refine g_skipU rfl rfl rfl rfl ?_
         refine g_skip rfl rfl rfl rfl rfl ?_
         refine s_pu (p_pickT rfl rfl) rfl ?_
         refine WL_th ⟨rfl, _, ?_, Ext.cons rfl (ext_kc rfl (ext_kc rfl ext_kn))⟩
         trivial
        ·
         refine g_take rfl rfl rfl ?_
         refine s_pu (p_move rfl) rfl ?_
         refine g_take rfl rfl rfl ?_
         refine s_pu (p_move rfl) rfl ?_
         refine g_take rfl rfl rfl ?_
         refine s_pu (p_indexB (by kernel_rfl) rfl rfl ?_ ?_) rfl ?_
         ·
          omega
         ·
          (first | omega | (simp; omega))
         refine g_take rfl rfl rfl ?_
         refine s_pu (p_eqI rfl rfl) rfl ?_
         refine g_take rfl rfl rfl ?_
         refine s_pu (p_move rfl) rfl ?_
         refine s_bool 64 rfl (fun hb64 => ?_) (fun hb64 => ?_)
         ·
          refine g_take rfl rfl rfl ?_
          refine s_pu (p_move rfl) rfl ?_
          refine g_take rfl rfl rfl ?_
          refine s_pu (p_addI rfl rfl ?_) rfl ?_
          ·
           (first | assumption | omega)
          refine g_take rfl rfl rfl ?_
          refine s_pu (p_move rfl) rfl ?_
          refine g_take rfl rfl rfl ?_
          refine s_pu (p_lenS (by kernel_rfl) rfl) rfl ?_
          refine g_take rfl rfl rfl ?_
          refine s_pu (p_eqI rfl rfl) rfl ?_
          refine g_take rfl rfl rfl ?_
          refine s_pu (p_move rfl) rfl ?_
          refine s_bool 70 rfl (fun hb70 => ?_) (fun hb70 => ?_)
          ·
           refine g_skip rfl rfl rfl rfl rfl ?_
           refine g_skip rfl rfl rfl rfl rfl ?_
           refine g_skip rfl rfl rfl rfl rfl ?_
           refine g_skip rfl rfl rfl rfl rfl ?_
           refine g_skip rfl rfl rfl rfl rfl ?_
           refine g_take rfl rfl rfl ?_
           refine s_pu (p_pickT rfl rfl) rfl ?_
           refine g_take rfl rfl rfl ?_
           refine s_pu (p_pickT rfl rfl) rfl ?_
           refine s_pu (p_pickF rfl rfl) rfl ?_
           refine WL_th ⟨rfl, _, ?_, Ext.cons rfl (ext_kc rfl (ext_kc rfl ext_kn))⟩
           trivial
          ·
           have hne1 : x + 1 ≠ s.size := fun h => by have : (((x : Int) + 1) == (s.size : Int)) = false := hb70; rw [beq_eq_false_iff_ne] at this; omega
           refine g_take rfl rfl rfl ?_
           refine s_pu (p_move rfl) rfl ?_
           refine g_take rfl rfl rfl ?_
           refine s_pu (p_move rfl) rfl ?_
           refine g_take rfl rfl rfl ?_
           refine s_pu (p_addI rfl rfl ?_) rfl ?_
           ·
            (first | assumption | omega)
           refine g_take rfl rfl rfl ?_
           refine s_pu (p_indexB (by kernel_rfl) rfl rfl ?_ ?_) rfl ?_
           ·
            omega
           ·
            (first | omega | (simp; omega))
           refine g_take rfl rfl rfl ?_
           refine s_pu (p_eqI rfl rfl) rfl ?_
           refine g_take rfl rfl rfl ?_
           refine s_pu (p_pickF rfl rfl) rfl ?_
           refine g_take rfl rfl rfl ?_
           refine s_pu (p_pickT rfl rfl) rfl ?_
           refine s_pu (p_pickF rfl rfl) rfl ?_
           refine WL_th ⟨rfl, _, ?_, Ext.cons rfl (ext_kc rfl (ext_kc rfl ext_kn))⟩
           trivial
         ·
          refine g_skip rfl rfl rfl rfl rfl ?_
          refine g_skip rfl rfl rfl rfl rfl ?_
          refine g_skip rfl rfl rfl rfl rfl ?_
          refine g_skip rfl rfl rfl rfl rfl ?_
          refine g_skip rfl rfl rfl rfl rfl ?_
          refine g_skip rfl rfl rfl rfl rfl ?_
          refine g_skipU rfl rfl rfl rfl ?_
          refine g_skipU rfl rfl rfl rfl ?_
          refine g_skipU rfl rfl rfl rfl ?_
          refine g_skipU rfl rfl rfl rfl ?_
          refine g_skipU rfl rfl rfl rfl ?_
          refine g_skip rfl rfl rfl rfl rfl ?_
          refine g_take rfl rfl rfl ?_
          refine s_pu (p_pickF rfl rfl) rfl ?_
          refine s_pu (p_pickF rfl rfl) rfl ?_
          refine WL_th ⟨rfl, _, ?_, Ext.cons rfl (ext_kc rfl (ext_kc rfl ext_kn))⟩
          trivial
       ·
        intro b78 hb78
        refine WL_forget (Ext.cd 0 rfl (Ext.cd 3 rfl (Ext.cd 78 rfl (Ext.nil _)))) ?_
        show WL _ _ _ [] _ _ _
        refine WL_th ?_
        refine W_if rfl (fun h78 => ?_) (fun h78 => ?_)
        ·
         refine W_sr ?_
         refine s_pu (p_assign rfl) rfl ?_
         refine WL_th ?_
         refine W_ret ?_
         refine bl_ret ?_
         refine th_ret ?_
         refine th_ret ?_
         refine bl_ret ?_
         refine th_ret ?_
         refine ret_tmp (fn := Tryz.f78) rfl rfl ?_
         exact ⟨⟨_, rfl⟩, hs.keep0⟩
        ·
         refine W_skip ?_
         show W _ _ _ _ _ _
         refine W_reg ?_
         refine s_pu (p_move rfl) rfl ?_
         refine s_pu (p_addI rfl rfl ?_) rfl ?_
         ·
          (first | assumption | omega)
         refine s_pu (p_assign rfl) rfl ?_
         refine WL_th ?_
         refine ⟨x + 1, (Ext.cons rfl (Ext.cons (by show some (Value.int .i64 ((x : Int) + 1)) = _; simp) (Ext.nil _))), ⟨by omega, hs⟩, by omega⟩
     ·
      refine W_exit ?_
      show W _ _ _ _ _ _
      refine W_sr ?_
      refine s_pu (p_assign rfl) rfl ?_
      refine WL_th ?_
      refine W_ret ?_
      refine ret_tmp (fn := Tryz.f78) rfl rfl ?_
      exact ⟨⟨_, rfl⟩, hs.keep0⟩
theorem c_wrFoldable (s : ByteArray) (hsz : s.size ≤ 1000) (wI : World) : Quiet Tryz.prog 79 [.string s] wI fun v => ∃ b, v = .bool b := by
 have hs := St.startNone wI
 refine calls_W (args := [_]) Tryz.func79 rfl Tryz.ntmps79 rfl ?_
 refine W_sr ?_
 refine s_pu (p_assign rfl) rfl ?_
 refine WL_th ?_
 refine W_seq ?_
 refine W_sr ?_
 refine s_pu (p_assign rfl) rfl ?_
 refine WL_th ?_
 refine W_block ?_
 refine W_loop (α := Nat) (fun x => (upd (upd emp 3 (.int .i64 x)) 0 (.string s))) (fun x w => x ≤ s.size ∧ St wI (fun _ => False) w []) (fun x => s.size - x) 0 (Ext.cons rfl (Ext.cons rfl (Ext.nil _))) ⟨Nat.zero_le _, hs⟩ (fun x w hx => ?_)
 obtain ⟨hle, hs⟩ := hx
 refine W_seq ?_
 refine W_sr ?_
 refine s_pu (p_move rfl) rfl ?_
 refine s_pu (p_addI rfl rfl ?_) rfl ?_
 ·
  (first | assumption | omega)
 refine s_pu (p_move rfl) rfl ?_
 refine s_pu (p_lenS (by kernel_rfl) rfl) rfl ?_
 refine s_pu (p_ltI rfl rfl) rfl ?_
 refine WL_th ?_
 refine W_if rfl (fun h8 => ?_) (fun h8 => ?_)
 ·
  have hlt : x + 1 < s.size := by have := of_decide_eq_true h8; omega
  refine W_skip_th ?_
  refine W_seq ?_
  refine W_block ?_
  refine W_sr ?_
  refine s_pu (p_move rfl) rfl ?_
  refine s_pu (p_move rfl) rfl ?_
  refine s_pu (p_indexB (by kernel_rfl) rfl rfl ?_ ?_) rfl ?_
  ·
   omega
  ·
   (first | omega | (simp; omega))
  refine s_pu (p_eqI rfl rfl) rfl ?_
  refine s_pu (p_move rfl) rfl ?_
  refine WL_cutb 13 28 [0, 3] (fun b => True) ?_ ?_
  ·
   refine s_bool 15 rfl (fun hb15 => ?_) (fun hb15 => ?_)
   ·
    refine g_take rfl rfl rfl ?_
    refine s_pu (p_move rfl) rfl ?_
    refine g_take rfl rfl rfl ?_
    refine s_pu (p_move rfl) rfl ?_
    refine g_take rfl rfl rfl ?_
    refine s_pu (p_addI rfl rfl ?_) rfl ?_
    ·
     (first | assumption | omega)
    refine g_take rfl rfl rfl ?_
    refine s_pu (p_indexB (by kernel_rfl) rfl rfl ?_ ?_) rfl ?_
    ·
     omega
    ·
     (first | omega | (simp; omega))
    refine g_take rfl rfl rfl ?_
    refine s_pu (p_eqI rfl rfl) rfl ?_
    refine g_take rfl rfl rfl ?_
    refine s_pu (p_move rfl) rfl ?_
    refine s_bool 21 rfl (fun hb21 => ?_) (fun hb21 => ?_)
    ·
     refine g_skip rfl rfl rfl rfl rfl ?_
     refine g_skip rfl rfl rfl rfl rfl ?_
     refine g_skip rfl rfl rfl rfl rfl ?_
     refine g_skip rfl rfl rfl rfl rfl ?_
     refine g_skip rfl rfl rfl rfl rfl ?_
     refine g_take rfl rfl rfl ?_
     refine s_pu (p_pickT rfl rfl) rfl ?_
     refine s_pu (p_pickT rfl rfl) rfl ?_
     refine WL_th ⟨rfl, _, ?_, Ext.cons rfl (ext_kc rfl (ext_kc rfl ext_kn))⟩
     trivial
    ·
     refine g_take rfl rfl rfl ?_
     refine s_pu (p_move rfl) rfl ?_
     refine g_take rfl rfl rfl ?_
     refine s_pu (p_move rfl) rfl ?_
     refine g_take rfl rfl rfl ?_
     refine s_pu (p_addI rfl rfl ?_) rfl ?_
     ·
      (first | assumption | omega)
     refine g_take rfl rfl rfl ?_
     refine s_pu (p_indexB (by kernel_rfl) rfl rfl ?_ ?_) rfl ?_
     ·
      omega
     ·
      (first | omega | (simp; omega))
     refine g_take rfl rfl rfl ?_
     refine s_pu (p_eqI rfl rfl) rfl ?_
     refine g_take rfl rfl rfl ?_
     refine s_pu (p_pickF rfl rfl) rfl ?_
     refine s_pu (p_pickT rfl rfl) rfl ?_
     refine WL_th ⟨rfl, _, ?_, Ext.cons rfl (ext_kc rfl (ext_kc rfl ext_kn))⟩
     trivial
   ·
    refine g_skip rfl rfl rfl rfl rfl ?_
    refine g_skip rfl rfl rfl rfl rfl ?_
    refine g_skip rfl rfl rfl rfl rfl ?_
    refine g_skip rfl rfl rfl rfl rfl ?_
    refine g_skip rfl rfl rfl rfl rfl ?_
    refine g_skip rfl rfl rfl rfl rfl ?_
    refine g_skipU rfl rfl rfl rfl ?_
    refine g_skipU rfl rfl rfl rfl ?_
    refine g_skipU rfl rfl rfl rfl ?_
    refine g_skipU rfl rfl rfl rfl ?_
    refine g_skipU rfl rfl rfl rfl ?_
    refine g_skip rfl rfl rfl rfl rfl ?_
    refine s_pu (p_pickF rfl rfl) rfl ?_
    refine WL_th ⟨rfl, _, ?_, Ext.cons rfl (ext_kc rfl (ext_kc rfl ext_kn))⟩
    trivial
  ·
   intro b28 hb28
   refine WL_forget (Ext.cd 0 rfl (Ext.cd 3 rfl (Ext.cd 28 rfl (Ext.nil _)))) ?_
   show WL _ _ _ [] _ _ _
   refine WL_th ?_
   refine W_if rfl (fun h28 => ?_) (fun h28 => ?_)
   ·
    refine W_sr ?_
    refine s_pu (p_assign rfl) rfl ?_
    refine WL_th ?_
    refine W_ret ?_
    refine bl_ret ?_
    refine th_ret ?_
    refine th_ret ?_
    refine bl_ret ?_
    refine th_ret ?_
    refine ret_tmp (fn := Tryz.f79) rfl rfl ?_
    exact ⟨⟨_, rfl⟩, hs.keep0⟩
   ·
    refine W_skip ?_
    show W _ _ _ _ _ _
    refine W_reg ?_
    refine s_pu (p_move rfl) rfl ?_
    refine s_pu (p_addI rfl rfl ?_) rfl ?_
    ·
     (first | assumption | omega)
    refine s_pu (p_assign rfl) rfl ?_
    refine WL_th ?_
    refine ⟨x + 1, (Ext.cons rfl (Ext.cons (by show some (Value.int .i64 ((x : Int) + 1)) = _; simp) (Ext.nil _))), ⟨by omega, hs⟩, by omega⟩
 ·
  refine W_exit ?_
  show W _ _ _ _ _ _
  refine W_sr ?_
  refine s_pu (p_move rfl) rfl ?_
  refine k_quiet (c_wrBlocky _ hsz _) hs (.cons rfl .nil) rfl ?_
  rintro _ _ ⟨b30, rfl⟩ hs _
  refine s_pu (p_assign rfl) rfl ?_
  refine WL_th ?_
  refine W_ret ?_
  refine ret_tmp (fn := Tryz.f79) rfl rfl ?_
  exact ⟨⟨_, rfl⟩, hs.keep0⟩
theorem c_Wordy (s : ByteArray) (hsz : s.size ≤ 1000) (wI : World) : Quiet Tryz.prog 88 [.string s] wI fun v => ∃ b, v = .bool b := by
 have hs := St.startNone wI
 refine calls_W (args := [_]) Tryz.func88 rfl Tryz.ntmps88 rfl ?_
 refine W_sr ?_
 refine s_pu (p_assign rfl) rfl ?_
 refine WL_th ?_
 refine W_seq ?_
 refine W_sr ?_
 refine s_pu (p_move rfl) rfl ?_
 refine s_pu (p_eqS rfl rfl) rfl ?_
 refine s_pu (p_move rfl) rfl ?_
 refine WL_cutw 5 11 [0] (fun b => b = false → 0 < s.size) (fun w => St wI (fun _ => False) w []) ?_ ?_
 ·
  refine s_bool 6 rfl (fun hb6 => ?_) (fun hb6 => ?_)
  ·
   refine g_skip rfl rfl rfl rfl rfl ?_
   refine g_skip rfl rfl rfl rfl rfl ?_
   refine g_skip rfl rfl rfl rfl rfl ?_
   refine g_skip rfl rfl rfl rfl rfl ?_
   refine s_pu (p_pickT rfl rfl) rfl ?_
   refine WL_th ⟨hs, _, ?_, Ext.cons rfl (ext_kc rfl ext_kn)⟩
   exact fun h => by cases h
  ·
   have hs0 := size_ne hb6
   refine g_take rfl rfl rfl ?_
   refine s_pu (p_move rfl) rfl ?_
   refine g_take rfl rfl rfl ?_
   refine s_pu (p_indexB (by kernel_rfl) rfl rfl ?_ ?_) rfl ?_
   ·
    omega
   ·
    (first | omega | (simp; omega))
   refine g_take rfl rfl rfl ?_
   refine k_quiet (c_wrLetter _ _) hs (.cons rfl .nil) rfl ?_
   rintro _ _ ⟨b9, rfl⟩ hs _
   refine g_take rfl rfl rfl ?_
   refine s_pu (p_not rfl) rfl ?_
   refine s_pu (p_pickF rfl rfl) rfl ?_
   refine WL_th ⟨hs, _, ?_, Ext.cons rfl (ext_kc rfl ext_kn)⟩
   exact fun _ => hs0
 ·
  intro w11 b11 hs hb11
  refine WL_forget (Ext.cd 0 rfl (Ext.cd 11 rfl (Ext.nil _))) ?_
  show WL _ _ _ (_ :: _) _ _ _
  refine s_pu (p_move rfl) rfl ?_
  refine WL_cutw 8 20 [0] (fun b => True) (fun w => St wI (fun _ => False) w []) ?_ ?_
  ·
   refine s_bool 12 rfl (fun hb12 => ?_) (fun hb12 => ?_)
   ·
    refine g_skip rfl rfl rfl rfl rfl ?_
    refine g_skip rfl rfl rfl rfl rfl ?_
    refine g_skip rfl rfl rfl rfl rfl ?_
    refine g_skip rfl rfl rfl rfl rfl ?_
    refine g_skip rfl rfl rfl rfl rfl ?_
    refine g_skip rfl rfl rfl rfl rfl ?_
    refine g_skip rfl rfl rfl rfl rfl ?_
    refine s_pu (p_pickT rfl rfl) rfl ?_
    refine WL_th ⟨hs, _, ?_, Ext.cons rfl (ext_kc rfl ext_kn)⟩
    trivial
   ·
    have hs0 := hb11 hb12
    refine g_take rfl rfl rfl ?_
    refine s_pu (p_move rfl) rfl ?_
    refine g_take rfl rfl rfl ?_
    refine s_pu (p_move rfl) rfl ?_
    refine g_take rfl rfl rfl ?_
    refine s_pu (p_lenS (by kernel_rfl) rfl) rfl ?_
    refine g_take rfl rfl rfl ?_
    refine s_pu (p_subI rfl rfl ?_) rfl ?_
    ·
     (first | assumption | omega)
    refine g_take rfl rfl rfl ?_
    refine s_pu (p_indexB (by kernel_rfl) rfl rfl ?_ ?_) rfl ?_
    ·
     omega
    ·
     (first | omega | (simp; omega))
    refine g_take rfl rfl rfl ?_
    refine k_quiet (c_wrAlnum _ _) hs (.cons rfl .nil) rfl ?_
    rintro _ _ ⟨b18, rfl⟩ hs _
    refine g_take rfl rfl rfl ?_
    refine s_pu (p_not rfl) rfl ?_
    refine s_pu (p_pickF rfl rfl) rfl ?_
    refine WL_th ⟨hs, _, ?_, Ext.cons rfl (ext_kc rfl ext_kn)⟩
    trivial
  ·
   intro w20 b20 hs hb20
   refine WL_forget (Ext.cd 0 rfl (Ext.cd 20 rfl (Ext.nil _))) ?_
   show WL _ _ _ [] _ _ _
   refine WL_th ?_
   refine W_if rfl (fun h20 => ?_) (fun h20 => ?_)
   ·
    refine W_sr ?_
    refine s_pu (p_assign rfl) rfl ?_
    refine WL_th ?_
    refine W_ret ?_
    refine th_ret ?_
    refine ret_tmp (fn := Tryz.f88) rfl rfl ?_
    exact ⟨⟨_, rfl⟩, hs.keep0⟩
   ·
    refine W_skip_th ?_
    refine W_seq ?_
    refine W_sr ?_
    refine s_pu (p_assign rfl) rfl ?_
    refine WL_th ?_
    refine W_block ?_
    refine W_loop (α := Nat) (fun x => (upd (upd emp 3 (.int .i64 x)) 0 (.string s))) (fun x w => x ≤ s.size ∧ St wI (fun _ => False) w []) (fun x => s.size - x) 0 (Ext.cons rfl (Ext.cons rfl (Ext.nil _))) ⟨Nat.zero_le _, hs⟩ (fun x w hx => ?_)
    obtain ⟨hle, hs⟩ := hx
    refine W_seq ?_
    refine W_sr ?_
    refine s_pu (p_move rfl) rfl ?_
    refine s_pu (p_move rfl) rfl ?_
    refine s_pu (p_lenS (by kernel_rfl) rfl) rfl ?_
    refine s_pu (p_ltI rfl rfl) rfl ?_
    refine WL_th ?_
    refine W_if rfl (fun h24 => ?_) (fun h24 => ?_)
    ·
     have hlt : x < s.size := by have := of_decide_eq_true h24; omega
     refine W_skip_th ?_
     refine W_seq ?_
     refine W_block ?_
     refine W_sr ?_
     refine s_pu (p_move rfl) rfl ?_
     refine s_pu (p_move rfl) rfl ?_
     refine s_pu (p_indexB (by kernel_rfl) rfl rfl ?_ ?_) rfl ?_
     ·
      omega
     ·
      (first | omega | (simp; omega))
     refine k_quiet (c_wrAlnum _ _) hs (.cons rfl .nil) rfl ?_
     rintro _ _ ⟨b30, rfl⟩ hs _
     refine s_pu (p_not rfl) rfl ?_
     refine s_pu (p_move rfl) rfl ?_
     refine WL_cutw 6 38 [0, 3] (fun b => True) (fun w => St wI (fun _ => False) w []) ?_ ?_
     ·
      refine s_bool 32 rfl (fun hb32 => ?_) (fun hb32 => ?_)
      ·
       refine g_take rfl rfl rfl ?_
       refine s_pu (p_move rfl) rfl ?_
       refine g_take rfl rfl rfl ?_
       refine s_pu (p_move rfl) rfl ?_
       refine g_take rfl rfl rfl ?_
       refine s_pu (p_indexB (by kernel_rfl) rfl rfl ?_ ?_) rfl ?_
       ·
        omega
       ·
        (first | omega | (simp; omega))
       refine g_take rfl rfl rfl ?_
       refine k_quiet (c_wrWithin _ _ (by decide) _) hs (.cons rfl (.cons rfl .nil)) rfl ?_
       rintro _ _ ⟨b36, rfl⟩ hs _
       refine g_take rfl rfl rfl ?_
       refine s_pu (p_not rfl) rfl ?_
       refine s_pu (p_pickT rfl rfl) rfl ?_
       refine WL_th ⟨hs, _, ?_, Ext.cons rfl (ext_kc rfl (ext_kc rfl ext_kn))⟩
       trivial
      ·
       refine g_skip rfl rfl rfl rfl rfl ?_
       refine g_skip rfl rfl rfl rfl rfl ?_
       refine g_skip rfl rfl rfl rfl rfl ?_
       refine g_skip rfl rfl rfl rfl rfl ?_
       refine g_skip rfl rfl rfl rfl rfl ?_
       refine s_pu (p_pickF rfl rfl) rfl ?_
       refine WL_th ⟨hs, _, ?_, Ext.cons rfl (ext_kc rfl (ext_kc rfl ext_kn))⟩
       trivial
     ·
      intro w38 b38 hs hb38
      refine WL_forget (Ext.cd 0 rfl (Ext.cd 3 rfl (Ext.cd 38 rfl (Ext.nil _)))) ?_
      show WL _ _ _ (_ :: _) _ _ _
      refine s_pu (p_move rfl) rfl ?_
      refine WL_cutb 16 55 [0, 3] (fun b => True) ?_ ?_
      ·
       refine s_bool 39 rfl (fun hb39 => ?_) (fun hb39 => ?_)
       ·
        refine g_skip rfl rfl rfl rfl rfl ?_
        refine g_skip rfl rfl rfl rfl rfl ?_
        refine g_skip rfl rfl rfl rfl rfl ?_
        refine g_skipU rfl rfl rfl rfl ?_
        refine g_skipU rfl rfl rfl rfl ?_
        refine g_skipU rfl rfl rfl rfl ?_
        refine g_skipU rfl rfl rfl rfl ?_
        refine g_skip rfl rfl rfl rfl rfl ?_
        refine g_skip rfl rfl rfl rfl rfl ?_
        refine g_skipU rfl rfl rfl rfl ?_
        refine g_skipU rfl rfl rfl rfl ?_
        refine g_skipU rfl rfl rfl rfl ?_
        refine g_skipU rfl rfl rfl rfl ?_
        refine g_skipU rfl rfl rfl rfl ?_
        refine g_skip rfl rfl rfl rfl rfl ?_
        refine s_pu (p_pickT rfl rfl) rfl ?_
        refine WL_th ⟨rfl, _, ?_, Ext.cons rfl (ext_kc rfl (ext_kc rfl ext_kn))⟩
        trivial
       ·
        refine g_take rfl rfl rfl ?_
        refine s_pu (p_move rfl) rfl ?_
        refine g_take rfl rfl rfl ?_
        refine s_pu (p_gtI rfl rfl) rfl ?_
        refine g_take rfl rfl rfl ?_
        refine s_pu (p_move rfl) rfl ?_
        refine s_bool 42 rfl (fun hb42 => ?_) (fun hb42 => ?_)
        ·
         have hx0 := of_decide_eq_true hb42
         refine g_take rfl rfl rfl ?_
         refine s_pu (p_move rfl) rfl ?_
         refine g_take rfl rfl rfl ?_
         refine s_pu (p_move rfl) rfl ?_
         refine g_take rfl rfl rfl ?_
         refine s_pu (p_indexB (by kernel_rfl) rfl rfl ?_ ?_) rfl ?_
         ·
          omega
         ·
          (first | omega | (simp; omega))
         refine g_take rfl rfl rfl ?_
         refine s_pu (p_eqI rfl rfl) rfl ?_
         refine g_take rfl rfl rfl ?_
         refine s_pu (p_pickT rfl rfl) rfl ?_
         refine g_take rfl rfl rfl ?_
         refine s_pu (p_move rfl) rfl ?_
         refine s_bool 48 rfl (fun hb48 => ?_) (fun hb48 => ?_)
         ·
          refine g_take rfl rfl rfl ?_
          refine s_pu (p_move rfl) rfl ?_
          refine g_take rfl rfl rfl ?_
          refine s_pu (p_move rfl) rfl ?_
          refine g_take rfl rfl rfl ?_
          refine s_pu (p_subI rfl rfl ?_) rfl ?_
          ·
           (first | assumption | omega)
          refine g_take rfl rfl rfl ?_
          refine s_pu (p_indexB (by kernel_rfl) rfl rfl ?_ ?_) rfl ?_
          ·
           (first | omega | (exfalso; cases hb48))
          ·
           (first | omega | (exfalso; cases hb48))
          refine g_take rfl rfl rfl ?_
          refine s_pu (p_eqI rfl rfl) rfl ?_
          refine g_take rfl rfl rfl ?_
          refine s_pu (p_pickT rfl rfl) rfl ?_
          refine s_pu (p_pickF rfl rfl) rfl ?_
          refine WL_th ⟨rfl, _, ?_, Ext.cons rfl (ext_kc rfl (ext_kc rfl ext_kn))⟩
          trivial
         ·
          refine g_skip rfl rfl rfl rfl rfl ?_
          refine g_skip rfl rfl rfl rfl rfl ?_
          refine g_skip rfl rfl rfl rfl rfl ?_
          refine g_skip rfl rfl rfl rfl rfl ?_
          refine g_skip rfl rfl rfl rfl rfl ?_
          refine g_take rfl rfl rfl ?_
          refine s_pu (p_pickF rfl rfl) rfl ?_
          refine s_pu (p_pickF rfl rfl) rfl ?_
          refine WL_th ⟨rfl, _, ?_, Ext.cons rfl (ext_kc rfl (ext_kc rfl ext_kn))⟩
          trivial
        ·
         refine g_skip rfl rfl rfl rfl rfl ?_
         refine g_skip rfl rfl rfl rfl rfl ?_
         refine g_skip rfl rfl rfl rfl rfl ?_
         refine g_skip rfl rfl rfl rfl rfl ?_
         refine g_take rfl rfl rfl ?_
         refine s_pu (p_pickF rfl rfl) rfl ?_
         refine g_take rfl rfl rfl ?_
         refine s_pu (p_move rfl) rfl ?_
         refine s_bool 48 rfl (fun hb48 => ?_) (fun hb48 => ?_)
         ·
          refine g_take rfl rfl rfl ?_
          refine s_pu (p_move rfl) rfl ?_
          refine g_take rfl rfl rfl ?_
          refine s_pu (p_move rfl) rfl ?_
          refine g_take rfl rfl rfl ?_
          refine s_pu (p_subI rfl rfl ?_) rfl ?_
          ·
           (first | assumption | omega)
          refine g_take rfl rfl rfl ?_
          refine s_pu (p_indexB (by kernel_rfl) rfl rfl ?_ ?_) rfl ?_
          ·
           (first | omega | (exfalso; cases hb48))
          ·
           (first | omega | (exfalso; cases hb48))
          refine g_take rfl rfl rfl ?_
          refine s_pu (p_eqI rfl rfl) rfl ?_
          refine g_take rfl rfl rfl ?_
          refine s_pu (p_pickT rfl rfl) rfl ?_
          refine s_pu (p_pickF rfl rfl) rfl ?_
          refine WL_th ⟨rfl, _, ?_, Ext.cons rfl (ext_kc rfl (ext_kc rfl ext_kn))⟩
          trivial
         ·
          refine g_skip rfl rfl rfl rfl rfl ?_
          refine g_skip rfl rfl rfl rfl rfl ?_
          refine g_skip rfl rfl rfl rfl rfl ?_
          refine g_skip rfl rfl rfl rfl rfl ?_
          refine g_skip rfl rfl rfl rfl rfl ?_
          refine g_take rfl rfl rfl ?_
          refine s_pu (p_pickF rfl rfl) rfl ?_
          refine s_pu (p_pickF rfl rfl) rfl ?_
          refine WL_th ⟨rfl, _, ?_, Ext.cons rfl (ext_kc rfl (ext_kc rfl ext_kn))⟩
          trivial
      ·
       intro b55 hb55
       refine WL_forget (Ext.cd 0 rfl (Ext.cd 3 rfl (Ext.cd 55 rfl (Ext.nil _)))) ?_
       show WL _ _ _ [] _ _ _
       refine WL_th ?_
       refine W_if rfl (fun h55 => ?_) (fun h55 => ?_)
       ·
        refine W_sr ?_
        refine s_pu (p_assign rfl) rfl ?_
        refine WL_th ?_
        refine W_ret ?_
        refine bl_ret ?_
        refine th_ret ?_
        refine th_ret ?_
        refine bl_ret ?_
        refine th_ret ?_
        refine ret_tmp (fn := Tryz.f88) rfl rfl ?_
        exact ⟨⟨_, rfl⟩, hs.keep0⟩
       ·
        refine W_skip ?_
        show W _ _ _ _ _ _
        refine W_reg ?_
        refine s_pu (p_move rfl) rfl ?_
        refine s_pu (p_addI rfl rfl ?_) rfl ?_
        ·
         (first | assumption | omega)
        refine s_pu (p_assign rfl) rfl ?_
        refine WL_th ?_
        refine ⟨x + 1, (Ext.cons rfl (Ext.cons (by show some (Value.int .i64 ((x : Int) + 1)) = _; simp) (Ext.nil _))), ⟨by omega, hs⟩, by omega⟩
    ·
     refine W_exit ?_
     show W _ _ _ _ _ _
     refine W_sr ?_
     refine s_pu (p_assign rfl) rfl ?_
     refine WL_th ?_
     refine W_ret ?_
     refine ret_tmp (fn := Tryz.f88) rfl rfl ?_
     exact ⟨⟨_, rfl⟩, hs.keep0⟩
end Go.Proofs.YtmalghopogngoaaGreatDoor
set_option linter.unusedVariables false
set_option linter.unusedSimpArgs false
namespace Go.Proofs.YtmalghopogngoaaGreatDoor.MW
open Go Go.RowKit
/-- A block of n bytes g, with the mark. -/
def ptz (b T n : Nat) (g : Nat → Int) : Assn where
 on w S := (∀ x, S x ↔ x = b) ∧ w.heap[b]? = some (.cells (mkA n fun i => .int .u8 (g i)) T (n, n + 1))
 loc := fun w w' S h hk => ⟨h.1, (hk b ((h.1 b).2 rfl)).trans h.2⟩
section
variable {P : Program} {N : Nat} {Q : Exit → Env → World → Prop} {e : Env} {w w0 : World} {ops : Array Oper} {rest : List Oper} {F : Foot} {G G' G0 : List Assn} {d : Nat} {ty : TypeId} {pos : String} {af : Array Edge}
theorem ptz_cell {b T n : Nat} {g : Nat → Int} (hb : w.heap[b]? = some (.cells (mkA n fun i => .int .u8 (g i)) T (n, n + 1))) (o : Nat) (ho : o < n) : w.cell? ⟨b, o, none⟩ = some (.int .u8 (g o)) := by
 simp [World.cell?, hb, mkA_get n (fun i => Value.int .u8 (g i)) o ho]
theorem St.cellz {b T n : Nat} {g : Nat → Int} (h : St w0 F w G) (hp : Pick G (ptz b T n g) G') : w.heap[b]? = some (.cells (mkA n fun i => .int .u8 (g i)) T (n, n + 1)) := by
 obtain ⟨_, ha⟩ := h.pick hp
 exact ha.2
theorem St.allocz (h : St w0 F w G) (T n : Nat) (g : Nat → Int) : St w0 F (w.alloc (.cells (mkA n fun i => .int .u8 (g i)) T (n, n + 1))) (ptz w.heap.size T n g :: G) := by
 obtain ⟨S, hs, hF⟩ := h.sat
 refine ⟨h.keep.trans (Keep.alloc (fun _ => False) w _) (fun _ => False.elim), fun b => b = w.heap.size ∨ S b, .cons (S1 := fun b => b = w.heap.size) (S2 := S) ⟨fun _ => Iff.rfl, heap_alloc_new w _⟩ ?_ ?_ ?_ (fun _ => Iff.rfl), ?_⟩
 ·
  rintro b rfl; simp
 ·
  exact hs.loc (fun b hb => Below.heap_alloc _ _ _ (hs.lt b hb)) (by simp)
 ·
  rintro b rfl hb; exact absurd (hs.lt _ hb) (by omega)
 ·
  rintro b (rfl | hb)
  ·
   exact .inr h.keep.size
  ·
   exact hF b hb
/-- A text as bytes of its own. -/
theorem k_convSB {src el dst : TypeId} (h1 : P.underlying src = some .string) (h2 : P.underlying dst = some (.slice el)) (h3 : P.underlying el = some (.int .u8)) {x : Operand} {s : ByteArray} (hs : St w0 F w G) (hx : evo e x = some (.string s)) (hN : Nat.blt d N = true)
  (h : ∀ b cap n w', s.size ≤ n → St w0 F w' (ptz b el n (fun i => bt s i) :: G) → WL P ops N rest Q (upd e d (.slice (some ⟨b, 0, none⟩) s.size cap)) w') : WL P ops N (⟨some d, .convert src dst x, ty, pos, af, none⟩ :: rest) Q e w := by
 have hr := run_bytes_of_string (P := P) w src dst el s h1 h2 h3
 generalize hC : bytesRow s (grownCap w s.size 0 el) = C at hr
 have hCs : C = mkA C.size fun i => .int .u8 (bt s i) := by
  refine mkA_ext rfl fun i hi => ?_
  have hlen : (s.data.map fun b => Value.int .u8 b.toNat).size = s.size := by simp
  rw [← hC] at hi ⊢
  unfold bytesRow at hi ⊢
  by_cases hlt : i < s.size
  ·
   rw [Array.getElem?_append_left (by omega)]
   unfold bt
   have h' : i < s.data.size := hlt
   rw [Array.getElem?_map, Array.getElem?_eq_getElem h']
   rfl
  ·
   rw [Array.getElem?_append_right (by omega)]
   rw [Array.size_append, hlen, Array.size_replicate] at hi
   rw [Array.getElem?_replicate, if_pos (by omega)]
   unfold bt
   rw [Array.getElem?_eq_none (by show s.size ≤ i; omega)]
   rfl
 have hle : s.size ≤ C.size := by
  rw [← hC]
  unfold bytesRow
  have hlen : (s.data.map fun b => Value.int .u8 b.toNat).size = s.size := by simp
  rw [Array.size_append, hlen]
  omega
 have hst := (hs.drew).allocz el C.size (fun i => bt s i)
 rw [← hCs] at hst
 have hmk : Mk P N e (.convert src dst x) w (.slice (some ⟨w.heap.size, 0, none⟩) s.size (grownCap w s.size 0 el)) (w.drew.alloc (.cells C el (C.size, C.size + 1))) := fun a ha d ty pos af g => by
  simp only [execOp, ha.eval hx]
  simp [hr]
 exact s_mk hmk hN (h _ _ _ _ hle hst)
theorem k_ldz {T : TypeId} [One P T] {x : Operand} {b o T' n : Nat} {g : Nat → Int} (hs : St w0 F w G) (hx : evo e x = some (.pointer (some ⟨b, o, none⟩))) (hp : Pick G (ptz b T' n g) G') (ho : o < n) (hN : Nat.blt d N = true) (h : WL P ops N rest Q (upd e d (.int .u8 (g o))) w) :
  WL P ops N (⟨some d, .load T x, ty, pos, af, none⟩ :: rest) Q e w := s_at (m_load1 hx (ptz_cell (hs.cellz hp) o ho)) hN h
def updN (g : Nat → Int) (o : Nat) (v : Int) : Nat → Int := fun i => bif Nat.beq i o then v else g i
theorem k_stz {T : TypeId} [hT : One P T] {x y : Operand} {b o T' n : Nat} {g : Nat → Int} {v : Int} (hs : St w0 F w (ptz b T' n g :: G)) (hx : evo e x = some (.pointer (some ⟨b, o, none⟩))) (hy : evo e y = some (.int .u8 v)) (ho : o < n)
  (h : ∀ w', St w0 F w' (ptz b T' n (updN g o v) :: G) → WL P ops N rest Q e w') : WL P ops N (⟨none, .store T x y, ty, pos, af, none⟩ :: rest) Q e w := by
 have hb := hs.cellz .head
 obtain ⟨dd, i, hd, hi, hg, hsz⟩ := hT.und
 have hc : w.cell? ⟨b, o, none⟩ = some (.int .u8 (g o)) := ptz_cell hb o ho
 have hf : w.frozen? ⟨b, o, none⟩ = false := by
  simp [World.frozen?, hb]
  omega
 have hst := run_store P w ⟨b, o, none⟩ (.int .u8 v) .plain rfl
 rw [hc] at hst
 simp only [hf] at hst
 have hr : (Instr.storeAt T (.pointer (some ⟨b, o, none⟩)) (.int .u8 v)).run P w = .ok () (w.setCell ⟨b, o, none⟩ (.int .u8 v)) := by
  simp [Instr.storeAt, Instr.sureAddr, storeVar, Value.cells, sizeOf, ri hi, hsz, storeCells, add_at, hst]
 have hblk : (w.setCell ⟨b, o, none⟩ (.int .u8 v)).heap[b]? = some (.cells (mkA n fun i => .int .u8 (updN g o v i)) T' (n, n + 1)) := by
  have : (mkA n fun i => Value.int .u8 (updN g o v i)) = mkA n (updC (fun i => Value.int .u8 (g i)) o (.int .u8 v)) := mkA_congr fun i hi => by
   unfold updN updC
   cases Nat.beq i o <;> rfl
  rw [this, ← mkA_set]
  simp [World.setCell, Array.getElem?_modify, hb]
 refine s_wr (w' := w.setCell ⟨b, o, none⟩ (.int .u8 v)) (fun a ha d ty pos af g => ?_) (h _ (hs.put (w' := w.setCell ⟨b, o, none⟩ (.int .u8 v)) .head rfl rfl rfl (by simp [World.setCell]) fun S1 h1 hl => ⟨S1, ⟨h1.1, hblk⟩, fun k hk => ⟨by simpa [World.setCell] using hl k hk, .inl hk⟩, fun k hk hn => Below.heap_setCell _ _ _ _ (fun e => hn ((h1.1 k).2 e))⟩))
 simp only [execOp, ha.eval hx, ha.eval hy]
 simp [hr]
/-- And back. -/
theorem k_convZS {src el dst : TypeId} (h1 : P.underlying src = some (.slice el)) (h2 : P.underlying el = some (.int .u8)) (h3 : P.underlying dst = some .string) {x : Operand} {b T n l cap : Nat} {g : Nat → Int} (hs : St w0 F w G) (hp : Pick G (ptz b T n g) G') (hx : evo e x = some (.slice (some ⟨b, 0, none⟩) l cap)) (hl : l ≤ n) (hN : Nat.blt d N = true)
  (h : ∀ s : ByteArray, WL P ops N rest Q (upd e d (.string s)) w) : WL P ops N (⟨some d, .convert src dst x, ty, pos, af, none⟩ :: rest) Q e w := by
 have hb := hs.cellz hp
 have hr := run_convert_bytes_arg (P := P) w src el h1 h2 b 0 l cap ((List.range l).map g) (by simp) (fun i hi => by
  rw [Nat.zero_add, ptz_cell hb i (by omega)]
  simp [List.getD, hi]) dst h3
 refine s_at (fun a ha d ty pos af g => ?_) hN (h (strOfNums ((List.range l).map g)))
 simp only [execOp, ha.eval hx]
 simp [hr]
end
end Go.Proofs.YtmalghopogngoaaGreatDoor.MW
set_option linter.unusedVariables false
set_option linter.unusedSimpArgs false
set_option maxRecDepth 4000
namespace Go.Proofs.YtmalghopogngoaaGreatDoor
open Go Go.RowKit MW
theorem c_wrElder (s : ByteArray) (hsz : s.size ≤ 1000) (wI : World) : Quiet Tryz.prog 89 [.string s] wI fun v => ∃ b, v = .bool b := by
 have hs := St.startNone wI
 refine calls_W (args := [_]) Tryz.func89 rfl Tryz.ntmps89 rfl ?_
 refine W_sr ?_
 refine s_pu (p_assign rfl) rfl ?_
 refine WL_th ?_
 refine W_sr ?_
 refine s_pu (p_move rfl) rfl ?_
 refine k_convSB (el := 5) (by kernel_rfl) (by kernel_rfl) (by kernel_rfl) hs rfl rfl ?_
 intro b7 cap7 n7 _ hn7 hs
 refine s_pu (p_assign rfl) rfl ?_
 refine WL_th ?_
 refine W_seq ?_
 refine W_sr ?_
 refine s_pu (p_move rfl) rfl ?_
 refine s_pu (p_lenL rfl) rfl ?_
 refine s_pu (p_move rfl) rfl ?_
 refine WL_th ?_
 refine W_block ?_
 refine W_loop (α := Nat × (Nat → Int)) (fun x => (upd (upd (upd (upd emp 10 (.int .i64 x.1)) 9 (.int .i64 s.size)) 8 (.slice (some ⟨b7, 0, none⟩) s.size cap7)) 3 (.slice (some ⟨b7, 0, none⟩) s.size cap7))) (fun x w => x.1 ≤ s.size ∧ St wI (fun _ => False) w [ptz b7 5 n7 x.2]) (fun x => s.size - x.1) (0, fun i => bt s i) (Ext.cons rfl (Ext.cons rfl (Ext.cons rfl (Ext.cons rfl (Ext.nil _))))) ⟨Nat.zero_le _, hs⟩ (fun x w hx => ?_)
 obtain ⟨hle, hs⟩ := hx
 refine W_sr ?_
 refine s_pu (p_ltI rfl rfl) rfl ?_
 refine WL_th ?_
 refine W_seq ?_
 refine W_if rfl (fun h11 => ?_) (fun h11 => ?_)
 ·
  have hlt : x.1 < s.size := by have := of_decide_eq_true h11; omega
  refine W_skip_th ?_
  refine W_join (fun e' w' => ∃ g' : Nat → Int, Ext e' (upd (upd (upd (upd emp 3 (.slice (some ⟨b7, 0, none⟩) s.size cap7)) 8 (.slice (some ⟨b7, 0, none⟩) s.size cap7)) 9 (.int .i64 s.size)) 10 (.int .i64 x.1)) ∧ St wI (fun _ => False) w' [ptz b7 5 n7 g']) ?_ ?_
  ·
   refine W_block ?_
   refine W_sr ?_
   refine s_pu (p_move rfl) rfl ?_
   refine s_pu (p_elem rfl rfl ?_ ?_) rfl ?_
   ·
    (first | assumption | omega)
   ·
    (first | assumption | omega)
   refine k_ldz hs rfl .head (by rw [Int.toNat_natCast]; omega) rfl ?_
   refine s_pu (p_assign rfl) rfl ?_
   refine s_pu (p_assign rfl) rfl ?_
   refine WL_th ?_
   refine W_sr ?_
   refine s_pu (p_move rfl) rfl ?_
   refine s_pu (p_geI rfl rfl) rfl ?_
   refine s_pu (p_move rfl) rfl ?_
   refine WL_cutb 3 20 [3, 4, 5, 8, 9, 10] (fun b => True) ?_ ?_
   ·
    refine s_bool 17 rfl (fun hb17 => ?_) (fun hb17 => ?_)
    ·
     refine g_take rfl rfl rfl ?_
     refine s_pu (p_move rfl) rfl ?_
     refine g_take rfl rfl rfl ?_
     refine s_pu (p_leI rfl rfl) rfl ?_
     refine s_pu (p_pickT rfl rfl) rfl ?_
     refine WL_th ⟨rfl, _, ?_, Ext.cons rfl (ext_kc rfl (ext_kc rfl (ext_kc rfl (ext_kc rfl (ext_kc rfl (ext_kc rfl ext_kn))))))⟩
     trivial
    ·
     refine g_skip rfl rfl rfl rfl rfl ?_
     refine g_skip rfl rfl rfl rfl rfl ?_
     refine s_pu (p_pickF rfl rfl) rfl ?_
     refine WL_th ⟨rfl, _, ?_, Ext.cons rfl (ext_kc rfl (ext_kc rfl (ext_kc rfl (ext_kc rfl (ext_kc rfl (ext_kc rfl ext_kn))))))⟩
     trivial
   ·
    intro b20 hb20
    refine WL_forget (Ext.cd 3 rfl (Ext.cd 4 rfl (Ext.cd 5 rfl (Ext.cd 8 rfl (Ext.cd 9 rfl (Ext.cd 10 rfl (Ext.cd 20 rfl (Ext.nil _)))))))) ?_
    show WL _ _ _ [] _ _ _
    refine WL_th ?_
    refine W_if rfl (fun h20 => ?_) (fun h20 => ?_)
    ·
     refine W_reg ?_
     refine s_pu (p_move rfl) rfl ?_
     refine s_pu (p_move rfl) rfl ?_
     refine s_pu (p_move rfl) rfl ?_
     refine s_pu (p_addW rfl rfl) rfl ?_
     refine s_pu (p_elem rfl rfl ?_ ?_) rfl ?_
     ·
      (first | assumption | omega)
     ·
      (first | assumption | omega)
     refine k_stz hs rfl rfl (by rw [Int.toNat_natCast]; omega) ?_
     intro _ hs
     refine WL_nil ?_
     show ∃ _, _
     exact ⟨_, Ext.cons rfl (Ext.cons rfl (Ext.cons rfl (Ext.cons rfl (Ext.nil _)))), hs⟩
    ·
     refine W_skip ?_
     show ∃ _, _
     exact ⟨_, Ext.cons rfl (Ext.cons rfl (Ext.cons rfl (Ext.cons rfl (Ext.nil _)))), hs⟩
  ·
   rintro e1 w1 ⟨g', hx, hs⟩
   refine W_forget hx ?_
   clear hx
   refine W_reg ?_
   refine s_pu (p_addI rfl rfl ?_) rfl ?_
   ·
    (first | assumption | omega)
   refine s_pu (p_move rfl) rfl ?_
   refine WL_th ?_
   refine ⟨(x.1 + 1, g'), (Ext.cons rfl (Ext.cons rfl (Ext.cons rfl (Ext.cons (by show some (Value.int .i64 ((x.1 : Int) + 1)) = _; simp) (Ext.nil _))))), ⟨by omega, hs⟩, by simp; omega⟩
 ·
  refine W_exit ?_
  show W _ _ _ _ _ _
  refine W_seq ?_
  refine W_sr ?_
  refine s_pu (p_move rfl) rfl ?_
  refine k_convZS (el := 5) (by kernel_rfl) (by kernel_rfl) (by kernel_rfl) hs .head rfl hn7 rfl ?_
  intro s28
  refine WL_th ?_
  refine W_block ?_
  refine W_join (fun e' w' => ∃ b : Bool, Ext e' (upd emp 29 (.bool b)) ∧ St wI (fun _ => False) w' [ptz b7 5 n7 x.2]) ?_ ?_
  ·
   refine W_sr ?_
   refine s_pu (p_eqS rfl rfl) rfl ?_
   refine s_pu (p_assign rfl) rfl ?_
   refine WL_th ?_
   refine W_if rfl (fun h0 => ?_) (fun h0 => ?_)
   ·
    refine W_skip_th ?_
    exact ⟨_, Ext.cons rfl (Ext.nil _), hs⟩
   ·
    refine W_sr ?_
    refine s_pu (p_eqS rfl rfl) rfl ?_
    refine s_pu (p_assign rfl) rfl ?_
    refine WL_th ?_
    refine W_if rfl (fun h1 => ?_) (fun h1 => ?_)
    ·
     refine W_skip_th ?_
     exact ⟨_, Ext.cons rfl (Ext.nil _), hs⟩
    ·
     refine W_sr ?_
     refine s_pu (p_eqS rfl rfl) rfl ?_
     refine s_pu (p_assign rfl) rfl ?_
     refine WL_th ?_
     refine W_if rfl (fun h2 => ?_) (fun h2 => ?_)
     ·
      refine W_skip_th ?_
      exact ⟨_, Ext.cons rfl (Ext.nil _), hs⟩
     ·
      refine W_sr ?_
      refine s_pu (p_eqS rfl rfl) rfl ?_
      refine s_pu (p_assign rfl) rfl ?_
      refine WL_th ?_
      refine W_if rfl (fun h3 => ?_) (fun h3 => ?_)
      ·
       refine W_skip_th ?_
       exact ⟨_, Ext.cons rfl (Ext.nil _), hs⟩
      ·
       refine W_sr ?_
       refine s_pu (p_eqS rfl rfl) rfl ?_
       refine s_pu (p_assign rfl) rfl ?_
       refine WL_th ?_
       refine W_forget (Ext.cd 28 rfl (Ext.cd 29 rfl (Ext.nil _))) ?_
       refine W_if rfl (fun h4 => ?_) (fun h4 => ?_)
       ·
        refine W_skip_th ?_
        exact ⟨_, Ext.cons rfl (Ext.nil _), hs⟩
       ·
        refine W_sr ?_
        refine s_pu (p_eqS rfl rfl) rfl ?_
        refine s_pu (p_assign rfl) rfl ?_
        refine WL_th ?_
        refine W_if rfl (fun h5 => ?_) (fun h5 => ?_)
        ·
         refine W_skip_th ?_
         exact ⟨_, Ext.cons rfl (Ext.nil _), hs⟩
        ·
         refine W_sr ?_
         refine s_pu (p_eqS rfl rfl) rfl ?_
         refine s_pu (p_assign rfl) rfl ?_
         refine WL_th ?_
         refine W_if rfl (fun h6 => ?_) (fun h6 => ?_)
         ·
          refine W_skip_th ?_
          exact ⟨_, Ext.cons rfl (Ext.nil _), hs⟩
         ·
          refine W_sr ?_
          refine s_pu (p_eqS rfl rfl) rfl ?_
          refine s_pu (p_assign rfl) rfl ?_
          refine WL_th ?_
          refine W_if rfl (fun h7 => ?_) (fun h7 => ?_)
          ·
           refine W_skip_th ?_
           exact ⟨_, Ext.cons rfl (Ext.nil _), hs⟩
          ·
           refine W_sr ?_
           refine s_pu (p_eqS rfl rfl) rfl ?_
           refine s_pu (p_assign rfl) rfl ?_
           refine WL_th ?_
           refine W_if rfl (fun h8 => ?_) (fun h8 => ?_)
           ·
            refine W_skip_th ?_
            exact ⟨_, Ext.cons rfl (Ext.nil _), hs⟩
           ·
            refine W_sr ?_
            refine s_pu (p_eqS rfl rfl) rfl ?_
            refine s_pu (p_assign rfl) rfl ?_
            refine WL_th ?_
            refine W_if rfl (fun h9 => ?_) (fun h9 => ?_)
            ·
             refine W_skip_th ?_
             exact ⟨_, Ext.cons rfl (Ext.nil _), hs⟩
            ·
             refine W_reg ?_
             refine s_pu (p_eqS rfl rfl) rfl ?_
             refine s_pu (p_assign rfl) rfl ?_
             refine WL_th ?_
             exact ⟨_, Ext.cons rfl (Ext.nil _), hs⟩
  ·
   rintro e2 w2 ⟨b29, hx, hs⟩
   refine W_forget hx ?_
   clear hx
   refine W_if rfl (fun h10 => ?_) (fun h10 => ?_)
   ·
    refine W_sr ?_
    refine s_pu (p_assign rfl) rfl ?_
    refine WL_th ?_
    refine W_ret ?_
    refine bl_ret ?_
    refine th_ret ?_
    refine ret_tmp (fn := Tryz.f89) rfl rfl ?_
    exact ⟨⟨_, rfl⟩, hs.keep0⟩
   ·
    refine W_skip ?_
    show W _ _ _ _ _ _
    refine W_sr ?_
    refine s_pu (p_assign rfl) rfl ?_
    refine WL_th ?_
    refine W_ret ?_
    refine ret_tmp (fn := Tryz.f89) rfl rfl ?_
    exact ⟨⟨_, rfl⟩, hs.keep0⟩
/-- A number plainly told: o signs, p digits ahead of the point. -/
def NumT (s : ByteArray) : Prop := ∃ o p : Nat, o ≤ 1 ∧ (o = 1 → bt s 0 = 45 ∨ bt s 0 = 43) ∧ 1 ≤ p ∧ p ≤ 18 ∧ o + p ≤ s.size ∧ (∀ i, i < p → dig (bt s (o + i))) ∧ (bt s (o + 0) = 48 → p = 1) ∧
 (s.size = o + p ∨ (bt s (o + p) = 46 ∧ o + p + 2 ≤ s.size ∧ s.size ≤ o + p + 7 ∧ ∀ i, o + p + 1 ≤ i → i < s.size → dig (bt s i)))
theorem c_wrNumber (s : ByteArray) (hsz : s.size ≤ 1000) (wI : World) : Quiet Tryz.prog 75 [.string s] wI fun v => ∃ k : Int, v = .int .i64 k ∧ (k = 0 ∨ ((k = 3 ∨ k = 4) ∧ NumT s)) := by
 have hs := St.startNone wI
 refine calls_W (args := [_]) Tryz.func75 rfl Tryz.ntmps75 rfl ?_
 refine W_sr ?_
 refine s_pu (p_assign rfl) rfl ?_
 refine WL_th ?_
 refine W_join (fun e' w' => ∃ (u : ByteArray) (o : Nat), o ≤ 1 ∧ u.size + o = s.size ∧ (∀ i, i < u.size → bt u i = bt s (o + i)) ∧ (o = 1 → bt s 0 = 45 ∨ bt s 0 = 43) ∧ Ext e' (upd emp 0 (.string u)) ∧ St wI (fun _ => False) w' []) ?_ ?_
 ·
  refine W_sr ?_
  refine s_pu (p_move rfl) rfl ?_
  refine s_pu (p_neS rfl rfl) rfl ?_
  refine s_pu (p_move rfl) rfl ?_
  refine WL_cutb 9 16 [0] (fun b => b = true → 0 < s.size ∧ (bt s 0 = 45 ∨ bt s 0 = 43)) ?_ ?_
  ·
   refine s_bool 7 rfl (fun hb7 => ?_) (fun hb7 => ?_)
   ·
    have hs0 := size_ne (by simpa using hb7)
    refine g_take rfl rfl rfl ?_
    refine s_pu (p_move rfl) rfl ?_
    refine g_take rfl rfl rfl ?_
    refine s_pu (p_indexB (by kernel_rfl) rfl rfl ?_ ?_) rfl ?_
    ·
     omega
    ·
     (first | omega | (simp; omega))
    refine g_take rfl rfl rfl ?_
    refine s_pu (p_eqI rfl rfl) rfl ?_
    refine g_take rfl rfl rfl ?_
    refine s_pu (p_move rfl) rfl ?_
    refine s_bool 11 rfl (fun hb11 => ?_) (fun hb11 => ?_)
    ·
     refine g_skip rfl rfl rfl rfl rfl ?_
     refine g_skip rfl rfl rfl rfl rfl ?_
     refine g_skip rfl rfl rfl rfl rfl ?_
     refine g_take rfl rfl rfl ?_
     refine s_pu (p_pickT rfl rfl) rfl ?_
     refine s_pu (p_pickT rfl rfl) rfl ?_
     refine WL_th ⟨rfl, _, ?_, Ext.cons rfl (ext_kc rfl ext_kn)⟩
     exact fun _ => ⟨hs0, .inl (by have h1 : (((bt s 0 : Nat) : Int) == 45) = true := hb11; have h2 := eq_of_beq h1; omega)⟩
    ·
     refine g_take rfl rfl rfl ?_
     refine s_pu (p_move rfl) rfl ?_
     refine g_take rfl rfl rfl ?_
     refine s_pu (p_indexB (by kernel_rfl) rfl rfl ?_ ?_) rfl ?_
     ·
      omega
     ·
      (first | omega | (simp; omega))
     refine g_take rfl rfl rfl ?_
     refine s_pu (p_eqI rfl rfl) rfl ?_
     refine g_take rfl rfl rfl ?_
     refine s_pu (p_pickF rfl rfl) rfl ?_
     refine s_pu (p_pickT rfl rfl) rfl ?_
     refine WL_th ⟨rfl, _, ?_, Ext.cons rfl (ext_kc rfl ext_kn)⟩
     exact fun h => ⟨hs0, .inr (by have h1 : (((bt s 0 : Nat) : Int) == 43) = true := h; have h2 := eq_of_beq h1; omega)⟩
   ·
    refine g_skip rfl rfl rfl rfl rfl ?_
    refine g_skip rfl rfl rfl rfl rfl ?_
    refine g_skip rfl rfl rfl rfl rfl ?_
    refine g_skip rfl rfl rfl rfl rfl ?_
    refine g_skipU rfl rfl rfl rfl ?_
    refine g_skipU rfl rfl rfl rfl ?_
    refine g_skipU rfl rfl rfl rfl ?_
    refine g_skip rfl rfl rfl rfl rfl ?_
    refine s_pu (p_pickF rfl rfl) rfl ?_
    refine WL_th ⟨rfl, _, ?_, Ext.cons rfl (ext_kc rfl ext_kn)⟩
    exact fun h => by cases h
  ·
   intro b16 hb16
   refine WL_forget (Ext.cd 0 rfl (Ext.cd 16 rfl (Ext.nil _))) ?_
   show WL _ _ _ [] _ _ _
   refine WL_th ?_
   refine W_if rfl (fun h16 => ?_) (fun h16 => ?_)
   ·
    obtain ⟨hs0, hsg⟩ := hb16 h16
    refine W_reg ?_
    refine s_pu (p_move rfl) rfl ?_
    refine s_pu (p_subLo (by kernel_rfl) rfl rfl ?_ ?_) rfl ?_
    ·
     (first | assumption | omega)
    ·
     (first | assumption | omega)
    refine s_pu (p_assign rfl) rfl ?_
    refine WL_th ?_
    exact ⟨_, 1, by omega, by rw [ByteArray.size_extract]; show min s.size s.size - 1 + 1 = s.size; omega, fun i hi => bt_extract hi, fun _ => hsg, Ext.cons rfl (Ext.nil _), hs⟩
   ·
    refine W_skip_th ?_
    exact ⟨s, 0, by omega, by omega, fun i hi => by rw [Nat.zero_add], fun h => by omega, Ext.cons rfl (Ext.nil _), hs⟩
 ·
  rintro e1 w1 ⟨u, o, ho1, husz, hub, hosg, hx, hs⟩
  refine W_forget hx ?_
  clear hx
  refine W_sr ?_
  refine s_pu (p_assign rfl) rfl ?_
  refine WL_th ?_
  refine W_seq ?_
  refine W_block ?_
  refine W_loop (α := Nat) (fun x => (upd (upd emp 3 (.int .i64 x)) 0 (.string u))) (fun x w => x ≤ u.size ∧ St wI (fun _ => False) w []) (fun x => u.size - x) 0 (Ext.cons rfl (Ext.cons rfl (Ext.nil _))) ⟨Nat.zero_le _, hs⟩ (fun x w hx => ?_)
  obtain ⟨hle, hs⟩ := hx
  refine W_seq ?_
  refine W_sr ?_
  refine s_pu (p_move rfl) rfl ?_
  refine s_pu (p_move rfl) rfl ?_
  refine s_pu (p_lenS (by kernel_rfl) rfl) rfl ?_
  refine s_pu (p_ltI rfl rfl) rfl ?_
  refine s_pu (p_move rfl) rfl ?_
  refine WL_cutb 5 28 [0, 3] (fun b => (b = true → x < u.size) ∧ (b = false → x = u.size ∨ (x < u.size ∧ bt u x = 46))) ?_ ?_
  ·
   refine s_bool 23 rfl (fun hb23 => ?_) (fun hb23 => ?_)
   ·
    have hlt : x < u.size := by have := of_decide_eq_true hb23; omega
    refine g_take rfl rfl rfl ?_
    refine s_pu (p_move rfl) rfl ?_
    refine g_take rfl rfl rfl ?_
    refine s_pu (p_move rfl) rfl ?_
    refine g_take rfl rfl rfl ?_
    refine s_pu (p_indexB (by kernel_rfl) rfl rfl ?_ ?_) rfl ?_
    ·
     omega
    ·
     (first | omega | (simp; omega))
    refine g_take rfl rfl rfl ?_
    refine s_pu (p_neI rfl rfl) rfl ?_
    refine s_pu (p_pickT rfl rfl) rfl ?_
    refine WL_th ⟨rfl, _, ?_, Ext.cons rfl (ext_kc rfl (ext_kc rfl ext_kn))⟩
    exact ⟨fun _ => hlt, fun h => .inr ⟨hlt, by have h1 : (((bt u x : Nat) : Int) != 46) = false := h; simp at h1; omega⟩⟩
   ·
    refine g_skip rfl rfl rfl rfl rfl ?_
    refine g_skip rfl rfl rfl rfl rfl ?_
    refine g_skip rfl rfl rfl rfl rfl ?_
    refine g_skip rfl rfl rfl rfl rfl ?_
    refine s_pu (p_pickF rfl rfl) rfl ?_
    refine WL_th ⟨rfl, _, ?_, Ext.cons rfl (ext_kc rfl (ext_kc rfl ext_kn))⟩
    exact ⟨fun h => (by cases h), fun _ => .inl (by have := of_decide_eq_false hb23; omega)⟩
  ·
   intro b28 hb28
   refine WL_forget (Ext.cd 0 rfl (Ext.cd 3 rfl (Ext.cd 28 rfl (Ext.nil _)))) ?_
   show WL _ _ _ [] _ _ _
   refine WL_th ?_
   refine W_if rfl (fun h28 => ?_) (fun h28 => ?_)
   ·
    have hlt := hb28.1 h28
    refine W_skip_th ?_
    refine W_block ?_
    refine W_reg ?_
    refine s_pu (p_move rfl) rfl ?_
    refine s_pu (p_addI rfl rfl ?_) rfl ?_
    ·
     (first | assumption | omega)
    refine s_pu (p_assign rfl) rfl ?_
    refine WL_nil ?_
    show ∃ _, _
    refine ⟨x + 1, (Ext.cons rfl (Ext.cons (by show some (Value.int .i64 ((x : Int) + 1)) = _; simp) (Ext.nil _))), ⟨by omega, hs⟩, by omega⟩
   ·
    have hend := hb28.2 h28
    have hpsz : (u.extract 0 x).size = x := by rw [ByteArray.size_extract]; omega
    refine W_exit ?_
    show W _ _ _ _ _ _
    refine W_sr ?_
    refine s_pu (p_move rfl) rfl ?_
    refine s_pu (p_move rfl) rfl ?_
    refine s_pu (p_subHi (by kernel_rfl) rfl rfl ?_ ?_) rfl ?_
    ·
     omega
    ·
     omega
    refine s_pu (p_assign rfl) rfl ?_
    refine WL_th ?_
    refine W_seq ?_
    refine W_sr ?_
    refine s_pu (p_move rfl) rfl ?_
    refine k_quiet (c_wrDigits _ 1 18 (by rw [Int.toNat_natCast, hpsz]; omega) _) hs (.cons rfl (.cons rfl (.cons rfl .nil))) rfl ?_
    rintro _ _ ⟨b35, rfl, hd35⟩ hs _
    rw [Int.toNat_natCast] at hd35
    rw [hpsz] at hd35
    refine s_pu (p_not rfl) rfl ?_
    refine s_pu (p_move rfl) rfl ?_
    refine WL_cutb 9 46 [0, 3] (fun b => b = false → (1 ≤ x ∧ x ≤ 18 ∧ (∀ i, i < x → dig (bt u i))) ∧ (bt u 0 = 48 → x ≤ 1)) ?_ ?_
    ·
     refine s_bool 37 rfl (fun hb37 => ?_) (fun hb37 => ?_)
     ·
      refine g_skip rfl rfl rfl rfl rfl ?_
      refine g_skip rfl rfl rfl rfl rfl ?_
      refine g_skip rfl rfl rfl rfl rfl ?_
      refine g_skip rfl rfl rfl rfl rfl ?_
      refine g_skipU rfl rfl rfl rfl ?_
      refine g_skipU rfl rfl rfl rfl ?_
      refine g_skipU rfl rfl rfl rfl ?_
      refine g_skip rfl rfl rfl rfl rfl ?_
      refine s_pu (p_pickT rfl rfl) rfl ?_
      refine WL_th ⟨rfl, _, ?_, Ext.cons rfl (ext_kc rfl (ext_kc rfl ext_kn))⟩
      exact fun h => by cases h
     ·
      obtain ⟨d1, d2, d3⟩ := hd35 (by simpa using hb37)
      have d3 : ∀ i, i < x → dig (bt u i) := fun i hi => by have := d3 i hi; rwa [bt_extract (by omega), Nat.zero_add] at this
      have hx0 : bt (u.extract 0 ((x : Int).toNat)) 0 = bt u 0 := by rw [Int.toNat_natCast, bt_extract (by omega)]
      refine g_take rfl rfl rfl ?_
      refine s_pu (p_move rfl) rfl ?_
      refine g_take rfl rfl rfl ?_
      refine s_pu (p_indexB (by kernel_rfl) rfl rfl ?_ ?_) rfl ?_
      ·
       decide
      ·
       (rw [Int.toNat_natCast, hpsz]; omega)
      refine g_take rfl rfl rfl ?_
      refine s_pu (p_eqI rfl rfl) rfl ?_
      refine g_take rfl rfl rfl ?_
      refine s_pu (p_move rfl) rfl ?_
      refine s_bool 41 rfl (fun hb41 => ?_) (fun hb41 => ?_)
      ·
       refine g_take rfl rfl rfl ?_
       refine s_pu (p_move rfl) rfl ?_
       refine g_take rfl rfl rfl ?_
       refine s_pu (p_lenS (by kernel_rfl) rfl) rfl ?_
       refine g_take rfl rfl rfl ?_
       refine s_pu (p_gtI rfl rfl) rfl ?_
       refine g_take rfl rfl rfl ?_
       refine s_pu (p_pickT rfl rfl) rfl ?_
       refine s_pu (p_pickF rfl rfl) rfl ?_
       refine WL_th ⟨rfl, _, ?_, Ext.cons rfl (ext_kc rfl (ext_kc rfl ext_kn))⟩
       exact fun h => ⟨⟨by omega, by omega, d3⟩, fun _ => by have h1 := of_decide_eq_false h; rw [Int.toNat_natCast, hpsz] at h1; omega⟩
      ·
       refine g_skip rfl rfl rfl rfl rfl ?_
       refine g_skip rfl rfl rfl rfl rfl ?_
       refine g_skip rfl rfl rfl rfl rfl ?_
       refine g_take rfl rfl rfl ?_
       refine s_pu (p_pickF rfl rfl) rfl ?_
       refine s_pu (p_pickF rfl rfl) rfl ?_
       refine WL_th ⟨rfl, _, ?_, Ext.cons rfl (ext_kc rfl (ext_kc rfl ext_kn))⟩
       exact fun _ => ⟨⟨by omega, by omega, d3⟩, fun h48 => by have h1 : (((bt (u.extract 0 ((x : Int).toNat)) ((0 : Int).toNat) : Nat) : Int) == 48) = false := hb41; rw [show (0 : Int).toNat = 0 from rfl, hx0, h48] at h1; cases h1⟩
    ·
     intro b46 hb46
     refine WL_forget (Ext.cd 0 rfl (Ext.cd 3 rfl (Ext.cd 46 rfl (Ext.nil _)))) ?_
     show WL _ _ _ [] _ _ _
     refine WL_th ?_
     refine W_if rfl (fun h46 => ?_) (fun h46 => ?_)
     ·
      refine W_sr ?_
      refine s_pu (p_assign rfl) rfl ?_
      refine WL_th ?_
      refine W_ret ?_
      refine th_ret ?_
      refine ret_tmp (fn := Tryz.f75) rfl rfl ?_
      exact ⟨⟨0, rfl, .inl rfl⟩, hs.keep0⟩
     ·
      obtain ⟨⟨e1, e2, e3⟩, e4⟩ := hb46 h46
      refine W_skip_th ?_
      refine W_seq ?_
      refine W_sr ?_
      refine s_pu (p_move rfl) rfl ?_
      refine s_pu (p_move rfl) rfl ?_
      refine s_pu (p_lenS (by kernel_rfl) rfl) rfl ?_
      refine s_pu (p_eqI rfl rfl) rfl ?_
      refine WL_th ?_
      refine W_if rfl (fun h50 => ?_) (fun h50 => ?_)
      ·
       have hxe : x = u.size := by have := eq_of_beq h50; omega
       refine W_sr ?_
       refine s_pu (p_assign rfl) rfl ?_
       refine WL_th ?_
       refine W_ret ?_
       refine th_ret ?_
       refine ret_tmp (fn := Tryz.f75) rfl rfl ?_
       exact ⟨⟨3, rfl, .inr ⟨.inl rfl, o, x, ho1, hosg, e1, e2, by omega, fun i hi => by rw [← hub i (by omega)]; exact e3 i hi, fun h => by have := e4 (by rw [hub 0 (by omega)]; exact h); omega, .inl (by omega)⟩⟩, hs.keep0⟩
      ·
       have hxl : x < u.size ∧ bt u x = 46 := hend.resolve_left (fun h => by rw [h, beq_self_eq_true] at h50; cases h50)
       obtain ⟨hxl, h46b⟩ := hxl
       have hqsz : (u.extract (x + 1) u.size).size = u.size - (x + 1) := by rw [ByteArray.size_extract]; omega
       have hxt : ((x : Int) + 1).toNat = x + 1 := by omega
       refine W_skip_th ?_
       refine W_seq ?_
       refine W_sr ?_
       refine s_pu (p_move rfl) rfl ?_
       refine s_pu (p_move rfl) rfl ?_
       refine s_pu (p_addI rfl rfl ?_) rfl ?_
       ·
        (first | assumption | omega)
       refine s_pu (p_subLo (by kernel_rfl) rfl rfl ?_ ?_) rfl ?_
       ·
        omega
       ·
        omega
       refine k_quiet (c_wrDigits _ 1 6 (by rw [hxt, hqsz]; omega) _) hs (.cons rfl (.cons rfl (.cons rfl .nil))) rfl ?_
       rintro _ _ ⟨b55, rfl, hd55⟩ hs _
       rw [hxt] at hd55
       rw [hqsz] at hd55
       refine WL_th ?_
       refine W_forget (Ext.cd 55 rfl (Ext.nil _)) ?_
       refine W_if rfl (fun h55 => ?_) (fun h55 => ?_)
       ·
        obtain ⟨g1, g2, g3⟩ := hd55 h55
        refine W_sr ?_
        refine s_pu (p_assign rfl) rfl ?_
        refine WL_th ?_
        refine W_ret ?_
        refine th_ret ?_
        refine ret_tmp (fn := Tryz.f75) rfl rfl ?_
        exact ⟨⟨4, rfl, .inr ⟨.inr rfl, o, x, ho1, hosg, e1, e2, by omega, fun i hi => by rw [← hub i (by omega)]; exact e3 i hi, fun h => by have := e4 (by rw [hub 0 (by omega)]; exact h); omega, .inr ⟨by rw [← hub x hxl]; exact h46b, by omega, by omega, fun i hi hi2 => by have h1 := g3 (i - o - (x + 1)) (by omega); rw [bt_extract (by rw [hqsz]; omega), hub _ (by omega), show o + (x + 1 + (i - o - (x + 1))) = i by omega] at h1; exact h1⟩⟩⟩, hs.keep0⟩
       ·
        refine W_skip_th ?_
        refine W_sr ?_
        refine s_pu (p_assign rfl) rfl ?_
        refine WL_th ?_
        refine W_ret ?_
        refine ret_tmp (fn := Tryz.f75) rfl rfl ?_
        exact ⟨⟨0, rfl, .inl rfl⟩, hs.keep0⟩
theorem bool_text {s : ByteArray} (h : (s.toList == (⟨#[116, 114, 117, 101]⟩ : ByteArray).toList) = true ∨ (s.toList == (⟨#[84, 114, 117, 101]⟩ : ByteArray).toList) = true ∨ (s.toList == (⟨#[84, 82, 85, 69]⟩ : ByteArray).toList) = true ∨ (s.toList == (⟨#[102, 97, 108, 115, 101]⟩ : ByteArray).toList) = true ∨ (s.toList == (⟨#[70, 97, 108, 115, 101]⟩ : ByteArray).toList) = true ∨ (s.toList == (⟨#[70, 65, 76, 83, 69]⟩ : ByteArray).toList) = true) : BoolText s := by
 rcases h with h | h | h | h | h | h
 ·
  exact .inl (toList_inj h)
 ·
  exact .inr (.inl (toList_inj h))
 ·
  exact .inr (.inr (.inl (toList_inj h)))
 ·
  exact .inr (.inr (.inr (.inl (toList_inj h))))
 ·
  exact .inr (.inr (.inr (.inr (.inl (toList_inj h)))))
 ·
  exact .inr (.inr (.inr (.inr (.inr (toList_inj h)))))
theorem bool_size {s : ByteArray} (h : BoolText s) : 0 < s.size := by
 rcases h with rfl | rfl | rfl | rfl | rfl | rfl <;> decide +kernel
theorem inf_size {s : ByteArray} (h : (s.toList == (⟨#[46, 105, 110, 102]⟩ : ByteArray).toList) = true ∨ (s.toList == (⟨#[46, 73, 110, 102]⟩ : ByteArray).toList) = true ∨ (s.toList == (⟨#[46, 73, 78, 70]⟩ : ByteArray).toList) = true ∨ (s.toList == (⟨#[45, 46, 105, 110, 102]⟩ : ByteArray).toList) = true ∨ (s.toList == (⟨#[45, 46, 73, 110, 102]⟩ : ByteArray).toList) = true ∨ (s.toList == (⟨#[45, 46, 73, 78, 70]⟩ : ByteArray).toList) = true ∨ (s.toList == (⟨#[43, 46, 105, 110, 102]⟩ : ByteArray).toList) = true ∨ (s.toList == (⟨#[43, 46, 73, 110, 102]⟩ : ByteArray).toList) = true ∨ (s.toList == (⟨#[43, 46, 73, 78, 70]⟩ : ByteArray).toList) = true) : 0 < s.size := by
 rcases h with h | h | h | h | h | h | h | h | h <;> (rw [toList_inj h]; decide)
theorem c_Known : KnownOK NumT := by
 intro s wI hsz
 refine calls_W (args := [_]) Tryz.func59 rfl Tryz.ntmps59 rfl ?_
 refine W_sr ?_
 refine s_pu (p_assign rfl) rfl ?_
 refine WL_th ?_
 refine W_seq ?_
 refine W_sr ?_
 refine s_pu (p_move rfl) rfl ?_
 refine WL_th ?_
 refine W_block ?_
 refine W_join (fun e' w' => ∃ b : Bool, (b = false → (s.toList == (⟨#[]⟩ : ByteArray).toList) = false ∧ (s.toList == (⟨#[110, 117, 108, 108]⟩ : ByteArray).toList) = false ∧ (s.toList == (⟨#[78, 117, 108, 108]⟩ : ByteArray).toList) = false ∧ (s.toList == (⟨#[78, 85, 76, 76]⟩ : ByteArray).toList) = false ∧ (s.toList == (⟨#[126]⟩ : ByteArray).toList) = false) ∧ (b = true → (s.toList == (⟨#[]⟩ : ByteArray).toList) = true ∨ (s.toList == (⟨#[110, 117, 108, 108]⟩ : ByteArray).toList) = true ∨ (s.toList == (⟨#[78, 117, 108, 108]⟩ : ByteArray).toList) = true ∨ (s.toList == (⟨#[78, 85, 76, 76]⟩ : ByteArray).toList) = true ∨ (s.toList == (⟨#[126]⟩ : ByteArray).toList) = true) ∧ Ext e' (upd (upd (upd emp 0 (.string s)) 3 (.string s)) 4 (.bool b)) ∧ wI = w') ?_ ?_
 ·
  refine W_sr ?_
  refine s_pu (p_eqS rfl rfl) rfl ?_
  refine s_pu (p_assign rfl) rfl ?_
  refine WL_th ?_
  refine W_if rfl (fun h0 => ?_) (fun h0 => ?_)
  ·
   refine W_skip_th ?_
   refine ⟨_, fun hf => ?_, fun _ => .inl h0, (Ext.cons rfl (Ext.cons rfl (Ext.cons rfl (Ext.nil _)))), rfl⟩
   rw [h0] at hf; cases hf
  ·
   refine W_sr ?_
   refine s_pu (p_eqS rfl rfl) rfl ?_
   refine s_pu (p_assign rfl) rfl ?_
   refine WL_th ?_
   refine W_if rfl (fun h1 => ?_) (fun h1 => ?_)
   ·
    refine W_skip_th ?_
    refine ⟨_, fun hf => ?_, fun _ => .inr (.inl h1), (Ext.cons rfl (Ext.cons rfl (Ext.cons rfl (Ext.nil _)))), rfl⟩
    rw [h1] at hf; cases hf
   ·
    refine W_sr ?_
    refine s_pu (p_eqS rfl rfl) rfl ?_
    refine s_pu (p_assign rfl) rfl ?_
    refine WL_th ?_
    refine W_if rfl (fun h2 => ?_) (fun h2 => ?_)
    ·
     refine W_skip_th ?_
     refine ⟨_, fun hf => ?_, fun _ => .inr (.inr (.inl h2)), (Ext.cons rfl (Ext.cons rfl (Ext.cons rfl (Ext.nil _)))), rfl⟩
     rw [h2] at hf; cases hf
    ·
     refine W_sr ?_
     refine s_pu (p_eqS rfl rfl) rfl ?_
     refine s_pu (p_assign rfl) rfl ?_
     refine WL_th ?_
     refine W_if rfl (fun h3 => ?_) (fun h3 => ?_)
     ·
      refine W_skip_th ?_
      refine ⟨_, fun hf => ?_, fun _ => .inr (.inr (.inr (.inl h3))), (Ext.cons rfl (Ext.cons rfl (Ext.cons rfl (Ext.nil _)))), rfl⟩
      rw [h3] at hf; cases hf
     ·
      refine W_reg ?_
      refine s_pu (p_eqS rfl rfl) rfl ?_
      refine s_pu (p_assign rfl) rfl ?_
      refine WL_th ?_
      exact ⟨_, fun hf => ⟨h0, h1, h2, h3, hf⟩, fun ht => .inr (.inr (.inr (.inr (ht)))), (Ext.cons rfl (Ext.cons rfl (Ext.cons rfl (Ext.nil _)))), rfl⟩
 ·
  rintro _ _ ⟨b0, n0, y0, hx, rfl⟩
  refine W_forget hx ?_
  clear hx
  refine W_if rfl (fun h4 => ?_) (fun h4 => ?_)
  ·
   refine W_sr ?_
   refine s_pu (p_assign rfl) rfl ?_
   refine WL_th ?_
   refine W_ret ?_
   refine bl_ret ?_
   refine th_ret ?_
   refine ret_tmp (fn := Tryz.f59) rfl rfl ?_
   exact ⟨⟨1, rfl, by decide, by decide, fun h => (by omega), fun h => (by omega), fun h => (by omega)⟩, .refl _ _⟩
  ·
   refine W_join (fun e' w' => ∃ b : Bool, (b = false → (s.toList == (⟨#[116, 114, 117, 101]⟩ : ByteArray).toList) = false ∧ (s.toList == (⟨#[84, 114, 117, 101]⟩ : ByteArray).toList) = false ∧ (s.toList == (⟨#[84, 82, 85, 69]⟩ : ByteArray).toList) = false ∧ (s.toList == (⟨#[102, 97, 108, 115, 101]⟩ : ByteArray).toList) = false ∧ (s.toList == (⟨#[70, 97, 108, 115, 101]⟩ : ByteArray).toList) = false ∧ (s.toList == (⟨#[70, 65, 76, 83, 69]⟩ : ByteArray).toList) = false) ∧ (b = true → (s.toList == (⟨#[116, 114, 117, 101]⟩ : ByteArray).toList) = true ∨ (s.toList == (⟨#[84, 114, 117, 101]⟩ : ByteArray).toList) = true ∨ (s.toList == (⟨#[84, 82, 85, 69]⟩ : ByteArray).toList) = true ∨ (s.toList == (⟨#[102, 97, 108, 115, 101]⟩ : ByteArray).toList) = true ∨ (s.toList == (⟨#[70, 97, 108, 115, 101]⟩ : ByteArray).toList) = true ∨ (s.toList == (⟨#[70, 65, 76, 83, 69]⟩ : ByteArray).toList) = true) ∧ Ext e' (upd (upd (upd emp 0 (.string s)) 3 (.string s)) 10 (.bool b)) ∧ wI = w') ?_ ?_
   ·
    refine W_sr ?_
    refine s_pu (p_eqS rfl rfl) rfl ?_
    refine s_pu (p_assign rfl) rfl ?_
    refine WL_th ?_
    refine W_if rfl (fun h5 => ?_) (fun h5 => ?_)
    ·
     refine W_skip_th ?_
     refine ⟨_, fun hf => ?_, fun _ => .inl h5, (Ext.cons rfl (Ext.cons rfl (Ext.cons rfl (Ext.nil _)))), rfl⟩
     rw [h5] at hf; cases hf
    ·
     refine W_sr ?_
     refine s_pu (p_eqS rfl rfl) rfl ?_
     refine s_pu (p_assign rfl) rfl ?_
     refine WL_th ?_
     refine W_if rfl (fun h6 => ?_) (fun h6 => ?_)
     ·
      refine W_skip_th ?_
      refine ⟨_, fun hf => ?_, fun _ => .inr (.inl h6), (Ext.cons rfl (Ext.cons rfl (Ext.cons rfl (Ext.nil _)))), rfl⟩
      rw [h6] at hf; cases hf
     ·
      refine W_sr ?_
      refine s_pu (p_eqS rfl rfl) rfl ?_
      refine s_pu (p_assign rfl) rfl ?_
      refine WL_th ?_
      refine W_if rfl (fun h7 => ?_) (fun h7 => ?_)
      ·
       refine W_skip_th ?_
       refine ⟨_, fun hf => ?_, fun _ => .inr (.inr (.inl h7)), (Ext.cons rfl (Ext.cons rfl (Ext.cons rfl (Ext.nil _)))), rfl⟩
       rw [h7] at hf; cases hf
      ·
       refine W_sr ?_
       refine s_pu (p_eqS rfl rfl) rfl ?_
       refine s_pu (p_assign rfl) rfl ?_
       refine WL_th ?_
       refine W_if rfl (fun h8 => ?_) (fun h8 => ?_)
       ·
        refine W_skip_th ?_
        refine ⟨_, fun hf => ?_, fun _ => .inr (.inr (.inr (.inl h8))), (Ext.cons rfl (Ext.cons rfl (Ext.cons rfl (Ext.nil _)))), rfl⟩
        rw [h8] at hf; cases hf
       ·
        refine W_sr ?_
        refine s_pu (p_eqS rfl rfl) rfl ?_
        refine s_pu (p_assign rfl) rfl ?_
        refine WL_th ?_
        refine W_if rfl (fun h9 => ?_) (fun h9 => ?_)
        ·
         refine W_skip_th ?_
         refine ⟨_, fun hf => ?_, fun _ => .inr (.inr (.inr (.inr (.inl h9)))), (Ext.cons rfl (Ext.cons rfl (Ext.cons rfl (Ext.nil _)))), rfl⟩
         rw [h9] at hf; cases hf
        ·
         refine W_reg ?_
         refine s_pu (p_eqS rfl rfl) rfl ?_
         refine s_pu (p_assign rfl) rfl ?_
         refine WL_th ?_
         exact ⟨_, fun hf => ⟨h5, h6, h7, h8, h9, hf⟩, fun ht => .inr (.inr (.inr (.inr (.inr (ht))))), (Ext.cons rfl (Ext.cons rfl (Ext.cons rfl (Ext.nil _)))), rfl⟩
   ·
    rintro _ _ ⟨b1, n1, y1, hx, rfl⟩
    refine W_forget hx ?_
    clear hx
    refine W_if rfl (fun h10 => ?_) (fun h10 => ?_)
    ·
     refine W_sr ?_
     refine s_pu (p_assign rfl) rfl ?_
     refine WL_th ?_
     refine W_ret ?_
     refine bl_ret ?_
     refine th_ret ?_
     refine ret_tmp (fn := Tryz.f59) rfl rfl ?_
     have hBT : BoolText s := bool_text (y1 (by assumption))
     exact ⟨⟨2, rfl, by decide, by decide, fun _ => bool_size hBT, fun _ => hBT, fun h => (by omega)⟩, .refl _ _⟩
    ·
     refine W_join (fun e' w' => ∃ b : Bool, (b = false → (s.toList == (⟨#[46, 105, 110, 102]⟩ : ByteArray).toList) = false ∧ (s.toList == (⟨#[46, 73, 110, 102]⟩ : ByteArray).toList) = false ∧ (s.toList == (⟨#[46, 73, 78, 70]⟩ : ByteArray).toList) = false ∧ (s.toList == (⟨#[45, 46, 105, 110, 102]⟩ : ByteArray).toList) = false ∧ (s.toList == (⟨#[45, 46, 73, 110, 102]⟩ : ByteArray).toList) = false ∧ (s.toList == (⟨#[45, 46, 73, 78, 70]⟩ : ByteArray).toList) = false ∧ (s.toList == (⟨#[43, 46, 105, 110, 102]⟩ : ByteArray).toList) = false ∧ (s.toList == (⟨#[43, 46, 73, 110, 102]⟩ : ByteArray).toList) = false ∧ (s.toList == (⟨#[43, 46, 73, 78, 70]⟩ : ByteArray).toList) = false) ∧ (b = true → (s.toList == (⟨#[46, 105, 110, 102]⟩ : ByteArray).toList) = true ∨ (s.toList == (⟨#[46, 73, 110, 102]⟩ : ByteArray).toList) = true ∨ (s.toList == (⟨#[46, 73, 78, 70]⟩ : ByteArray).toList) = true ∨ (s.toList == (⟨#[45, 46, 105, 110, 102]⟩ : ByteArray).toList) = true ∨ (s.toList == (⟨#[45, 46, 73, 110, 102]⟩ : ByteArray).toList) = true ∨ (s.toList == (⟨#[45, 46, 73, 78, 70]⟩ : ByteArray).toList) = true ∨ (s.toList == (⟨#[43, 46, 105, 110, 102]⟩ : ByteArray).toList) = true ∨ (s.toList == (⟨#[43, 46, 73, 110, 102]⟩ : ByteArray).toList) = true ∨ (s.toList == (⟨#[43, 46, 73, 78, 70]⟩ : ByteArray).toList) = true) ∧ Ext e' (upd (upd (upd emp 0 (.string s)) 3 (.string s)) 17 (.bool b)) ∧ wI = w') ?_ ?_
     ·
      refine W_sr ?_
      refine s_pu (p_eqS rfl rfl) rfl ?_
      refine s_pu (p_assign rfl) rfl ?_
      refine WL_th ?_
      refine W_if rfl (fun h11 => ?_) (fun h11 => ?_)
      ·
       refine W_skip_th ?_
       refine ⟨_, fun hf => ?_, fun _ => .inl h11, (Ext.cons rfl (Ext.cons rfl (Ext.cons rfl (Ext.nil _)))), rfl⟩
       rw [h11] at hf; cases hf
      ·
       refine W_sr ?_
       refine s_pu (p_eqS rfl rfl) rfl ?_
       refine s_pu (p_assign rfl) rfl ?_
       refine WL_th ?_
       refine W_if rfl (fun h12 => ?_) (fun h12 => ?_)
       ·
        refine W_skip_th ?_
        refine ⟨_, fun hf => ?_, fun _ => .inr (.inl h12), (Ext.cons rfl (Ext.cons rfl (Ext.cons rfl (Ext.nil _)))), rfl⟩
        rw [h12] at hf; cases hf
       ·
        refine W_sr ?_
        refine s_pu (p_eqS rfl rfl) rfl ?_
        refine s_pu (p_assign rfl) rfl ?_
        refine WL_th ?_
        refine W_if rfl (fun h13 => ?_) (fun h13 => ?_)
        ·
         refine W_skip_th ?_
         refine ⟨_, fun hf => ?_, fun _ => .inr (.inr (.inl h13)), (Ext.cons rfl (Ext.cons rfl (Ext.cons rfl (Ext.nil _)))), rfl⟩
         rw [h13] at hf; cases hf
        ·
         refine W_sr ?_
         refine s_pu (p_eqS rfl rfl) rfl ?_
         refine s_pu (p_assign rfl) rfl ?_
         refine WL_th ?_
         refine W_if rfl (fun h14 => ?_) (fun h14 => ?_)
         ·
          refine W_skip_th ?_
          refine ⟨_, fun hf => ?_, fun _ => .inr (.inr (.inr (.inl h14))), (Ext.cons rfl (Ext.cons rfl (Ext.cons rfl (Ext.nil _)))), rfl⟩
          rw [h14] at hf; cases hf
         ·
          refine W_sr ?_
          refine s_pu (p_eqS rfl rfl) rfl ?_
          refine s_pu (p_assign rfl) rfl ?_
          refine WL_th ?_
          refine W_if rfl (fun h15 => ?_) (fun h15 => ?_)
          ·
           refine W_skip_th ?_
           refine ⟨_, fun hf => ?_, fun _ => .inr (.inr (.inr (.inr (.inl h15)))), (Ext.cons rfl (Ext.cons rfl (Ext.cons rfl (Ext.nil _)))), rfl⟩
           rw [h15] at hf; cases hf
          ·
           refine W_sr ?_
           refine s_pu (p_eqS rfl rfl) rfl ?_
           refine s_pu (p_assign rfl) rfl ?_
           refine WL_th ?_
           refine W_if rfl (fun h16 => ?_) (fun h16 => ?_)
           ·
            refine W_skip_th ?_
            refine ⟨_, fun hf => ?_, fun _ => .inr (.inr (.inr (.inr (.inr (.inl h16))))), (Ext.cons rfl (Ext.cons rfl (Ext.cons rfl (Ext.nil _)))), rfl⟩
            rw [h16] at hf; cases hf
           ·
            refine W_sr ?_
            refine s_pu (p_eqS rfl rfl) rfl ?_
            refine s_pu (p_assign rfl) rfl ?_
            refine WL_th ?_
            refine W_if rfl (fun h17 => ?_) (fun h17 => ?_)
            ·
             refine W_skip_th ?_
             refine ⟨_, fun hf => ?_, fun _ => .inr (.inr (.inr (.inr (.inr (.inr (.inl h17)))))), (Ext.cons rfl (Ext.cons rfl (Ext.cons rfl (Ext.nil _)))), rfl⟩
             rw [h17] at hf; cases hf
            ·
             refine W_sr ?_
             refine s_pu (p_eqS rfl rfl) rfl ?_
             refine s_pu (p_assign rfl) rfl ?_
             refine WL_th ?_
             refine W_if rfl (fun h18 => ?_) (fun h18 => ?_)
             ·
              refine W_skip_th ?_
              refine ⟨_, fun hf => ?_, fun _ => .inr (.inr (.inr (.inr (.inr (.inr (.inr (.inl h18))))))), (Ext.cons rfl (Ext.cons rfl (Ext.cons rfl (Ext.nil _)))), rfl⟩
              rw [h18] at hf; cases hf
             ·
              refine W_reg ?_
              refine s_pu (p_eqS rfl rfl) rfl ?_
              refine s_pu (p_assign rfl) rfl ?_
              refine WL_th ?_
              exact ⟨_, fun hf => ⟨h11, h12, h13, h14, h15, h16, h17, h18, hf⟩, fun ht => .inr (.inr (.inr (.inr (.inr (.inr (.inr (.inr (ht)))))))), (Ext.cons rfl (Ext.cons rfl (Ext.cons rfl (Ext.nil _)))), rfl⟩
     ·
      rintro _ _ ⟨b2, n2, y2, hx, rfl⟩
      refine W_forget hx ?_
      clear hx
      refine W_if rfl (fun h19 => ?_) (fun h19 => ?_)
      ·
       refine W_sr ?_
       refine s_pu (p_assign rfl) rfl ?_
       refine WL_th ?_
       refine W_ret ?_
       refine bl_ret ?_
       refine th_ret ?_
       refine ret_tmp (fn := Tryz.f59) rfl rfl ?_
       exact ⟨⟨5, rfl, by decide, by decide, fun _ => inf_size (y2 (by assumption)), fun h => (by omega), fun h => (by omega)⟩, .refl _ _⟩
      ·
       refine W_join (fun e' w' => ∃ b : Bool, (b = false → (s.toList == (⟨#[46, 110, 97, 110]⟩ : ByteArray).toList) = false ∧ (s.toList == (⟨#[46, 78, 97, 78]⟩ : ByteArray).toList) = false ∧ (s.toList == (⟨#[46, 78, 65, 78]⟩ : ByteArray).toList) = false) ∧ (b = true → (s.toList == (⟨#[46, 110, 97, 110]⟩ : ByteArray).toList) = true ∨ (s.toList == (⟨#[46, 78, 97, 78]⟩ : ByteArray).toList) = true ∨ (s.toList == (⟨#[46, 78, 65, 78]⟩ : ByteArray).toList) = true) ∧ Ext e' (upd (upd emp 0 (.string s)) 27 (.bool b)) ∧ wI = w') ?_ ?_
       ·
        refine W_sr ?_
        refine s_pu (p_eqS rfl rfl) rfl ?_
        refine s_pu (p_assign rfl) rfl ?_
        refine WL_th ?_
        refine W_if rfl (fun h20 => ?_) (fun h20 => ?_)
        ·
         refine W_skip_th ?_
         refine ⟨_, fun hf => ?_, fun _ => .inl h20, (Ext.cons rfl (Ext.cons rfl (Ext.nil _))), rfl⟩
         rw [h20] at hf; cases hf
        ·
         refine W_sr ?_
         refine s_pu (p_eqS rfl rfl) rfl ?_
         refine s_pu (p_assign rfl) rfl ?_
         refine WL_th ?_
         refine W_if rfl (fun h21 => ?_) (fun h21 => ?_)
         ·
          refine W_skip_th ?_
          refine ⟨_, fun hf => ?_, fun _ => .inr (.inl h21), (Ext.cons rfl (Ext.cons rfl (Ext.nil _))), rfl⟩
          rw [h21] at hf; cases hf
         ·
          refine W_reg ?_
          refine s_pu (p_eqS rfl rfl) rfl ?_
          refine s_pu (p_assign rfl) rfl ?_
          refine WL_th ?_
          exact ⟨_, fun hf => ⟨h20, h21, hf⟩, fun ht => .inr (.inr (ht)), (Ext.cons rfl (Ext.cons rfl (Ext.nil _))), rfl⟩
       ·
        rintro _ _ ⟨b3, n3, y3, hx, rfl⟩
        refine W_forget hx ?_
        clear hx
        refine W_if rfl (fun h22 => ?_) (fun h22 => ?_)
        ·
         refine W_sr ?_
         refine s_pu (p_assign rfl) rfl ?_
         refine WL_th ?_
         refine W_ret ?_
         refine bl_ret ?_
         refine th_ret ?_
         refine ret_tmp (fn := Tryz.f59) rfl rfl ?_
         exact ⟨⟨6, rfl, by decide, by decide, fun h => (by omega), fun h => (by omega), fun h => (by omega)⟩, .refl _ _⟩
        ·
         refine W_skip ?_
         show W _ _ _ _ _ _
         refine W_sr ?_
         refine s_pu (p_move rfl) rfl ?_
         refine k_quiet (c_wrNumber _ hsz _) (St.startNone _) (.cons rfl .nil) rfl ?_
         rintro _ _ ⟨k32, rfl, hk32⟩ hs _
         refine s_pu (p_assign rfl) rfl ?_
         refine WL_th ?_
         refine W_ret ?_
         refine ret_tmp (fn := Tryz.f59) rfl rfl ?_
         exact ⟨⟨k32, rfl, by omega, by omega, fun h => (by omega), fun h => (by omega), fun h => (hk32.resolve_left (by omega)).2⟩, hs.keep0⟩
theorem c_Meant {T : ByteArray → Prop} (hKn : KnownOK T) (s : ByteArray) (hsz : s.size ≤ 1000) (wI : World) : Quiet Tryz.prog 76 [.string s] wI fun v => ∃ k : Int, v = .int .i64 k := by
 have hs := St.startNone wI
 refine calls_W (args := [_]) Tryz.func76 rfl Tryz.ntmps76 rfl ?_
 refine W_sr ?_
 refine s_pu (p_assign rfl) rfl ?_
 refine WL_th ?_
 refine W_seq ?_
 refine W_sr ?_
 refine s_pu (p_move rfl) rfl ?_
 refine k_quiet (hKn _ _ hsz) hs (.cons rfl .nil) rfl ?_
 rintro _ _ ⟨k5, rfl, _⟩ hs _
 refine s_pu (p_assign rfl) rfl ?_
 refine WL_th ?_
 refine W_sr ?_
 refine s_pu (p_move rfl) rfl ?_
 refine s_pu (p_gtI rfl rfl) rfl ?_
 refine WL_th ?_
 refine W_if rfl (fun h7 => ?_) (fun h7 => ?_)
 ·
  refine W_sr ?_
  refine s_pu (p_move rfl) rfl ?_
  refine s_pu (p_assign rfl) rfl ?_
  refine WL_th ?_
  refine W_ret ?_
  refine th_ret ?_
  refine ret_tmp (fn := Tryz.f76) rfl rfl ?_
  exact ⟨⟨_, rfl⟩, hs.keep0⟩
 ·
  refine W_skip_th ?_
  refine W_seq ?_
  refine W_sr ?_
  refine s_pu (p_move rfl) rfl ?_
  refine k_quiet (c_Wordy _ hsz _) hs (.cons rfl .nil) rfl ?_
  rintro _ _ ⟨b10, rfl⟩ hs _
  refine s_pu (p_move rfl) rfl ?_
  refine WL_cutw 4 15 [] (fun b => True) (fun w => St wI (fun _ => False) w []) ?_ ?_
  ·
   refine s_bool 11 rfl (fun hb11 => ?_) (fun hb11 => ?_)
   ·
    refine g_take rfl rfl rfl ?_
    refine s_pu (p_move rfl) rfl ?_
    refine g_take rfl rfl rfl ?_
    refine k_quiet (c_wrElder _ hsz _) hs (.cons rfl .nil) rfl ?_
    rintro _ _ ⟨b13, rfl⟩ hs _
    refine g_take rfl rfl rfl ?_
    refine s_pu (p_not rfl) rfl ?_
    refine s_pu (p_pickT rfl rfl) rfl ?_
    refine WL_th ⟨hs, _, ?_, Ext.cons rfl ext_kn⟩
    trivial
   ·
    refine g_skip rfl rfl rfl rfl rfl ?_
    refine g_skip rfl rfl rfl rfl rfl ?_
    refine g_skip rfl rfl rfl rfl rfl ?_
    refine s_pu (p_pickF rfl rfl) rfl ?_
    refine WL_th ⟨hs, _, ?_, Ext.cons rfl ext_kn⟩
    trivial
  ·
   intro w15 b15 hs hb15
   refine WL_forget (Ext.cd 15 rfl (Ext.nil _)) ?_
   show WL _ _ _ [] _ _ _
   refine WL_th ?_
   refine W_if rfl (fun h15 => ?_) (fun h15 => ?_)
   ·
    refine W_sr ?_
    refine s_pu (p_assign rfl) rfl ?_
    refine WL_th ?_
    refine W_ret ?_
    refine th_ret ?_
    refine ret_tmp (fn := Tryz.f76) rfl rfl ?_
    exact ⟨⟨_, rfl⟩, hs.keep0⟩
   ·
    refine W_skip_th ?_
    refine W_sr ?_
    refine s_pu (p_assign rfl) rfl ?_
    refine WL_th ?_
    refine W_ret ?_
    refine ret_tmp (fn := Tryz.f76) rfl rfl ?_
    exact ⟨⟨_, rfl⟩, hs.keep0⟩
theorem c_MayWord : MayWordOK := by
 intro s k wI
 have hs := St.startNone wI
 refine calls_W (args := [_, _]) Tryz.func60 rfl Tryz.ntmps60 rfl ?_
 refine W_sr ?_
 refine s_pu (p_assign rfl) rfl ?_
 refine WL_th ?_
 refine W_seq ?_
 refine W_block ?_
 refine W_sr ?_
 refine s_pu (p_move rfl) rfl ?_
 refine s_pu (p_lenS (by kernel_rfl) rfl) rfl ?_
 refine s_pu (p_gtI rfl rfl) rfl ?_
 refine s_pu (p_assign rfl) rfl ?_
 refine WL_th ?_
 refine W_if rfl (fun h5 => ?_) (fun h5 => ?_)
 ·
  refine W_sr ?_
  refine s_pu (p_assign rfl) rfl ?_
  refine WL_th ?_
  refine W_ret ?_
  refine bl_ret ?_
  refine th_ret ?_
  refine ret_tmp (fn := Tryz.f60) rfl rfl ?_
  exact ⟨⟨_, rfl⟩, hs.keep0⟩
 ·
  have hsz : s.size ≤ 1000 := by have := of_decide_eq_false h5; omega
  refine W_sr ?_
  refine s_pu (p_move rfl) rfl ?_
  refine s_pu (p_eqI rfl rfl) rfl ?_
  refine s_pu (p_assign rfl) rfl ?_
  refine WL_th ?_
  refine W_if rfl (fun h9 => ?_) (fun h9 => ?_)
  ·
   refine W_sr ?_
   refine s_pu (p_move rfl) rfl ?_
   refine k_quiet (c_Meant c_Known _ hsz _) hs (.cons rfl .nil) rfl ?_
   rintro _ _ ⟨k13, rfl⟩ hs _
   refine s_pu (p_gtI rfl rfl) rfl ?_
   refine s_pu (p_assign rfl) rfl ?_
   refine WL_th ?_
   refine W_forget (Ext.cd 4 rfl (Ext.nil _)) ?_
   refine W_ret ?_
   refine bl_ret ?_
   refine th_ret ?_
   refine ret_tmp (fn := Tryz.f60) rfl rfl ?_
   exact ⟨⟨_, rfl⟩, hs.keep0⟩
  ·
   refine W_sr ?_
   refine s_pu (p_move rfl) rfl ?_
   refine s_pu (p_eqI rfl rfl) rfl ?_
   refine s_pu (p_assign rfl) rfl ?_
   refine WL_th ?_
   refine W_if rfl (fun h15 => ?_) (fun h15 => ?_)
   ·
    refine W_sr ?_
    refine s_pu (p_move rfl) rfl ?_
    refine k_quiet (c_wrPrintable _ hsz _) hs (.cons rfl .nil) rfl ?_
    rintro _ _ ⟨b19, rfl⟩ hs _
    refine s_pu (p_assign rfl) rfl ?_
    refine WL_th ?_
    refine W_forget (Ext.cd 4 rfl (Ext.nil _)) ?_
    refine W_ret ?_
    refine bl_ret ?_
    refine th_ret ?_
    refine ret_tmp (fn := Tryz.f60) rfl rfl ?_
    exact ⟨⟨_, rfl⟩, hs.keep0⟩
   ·
    refine W_sr ?_
    refine s_pu (p_move rfl) rfl ?_
    refine s_pu (p_eqI rfl rfl) rfl ?_
    refine s_pu (p_assign rfl) rfl ?_
    refine WL_th ?_
    refine W_forget (Ext.cd 0 rfl (Ext.cd 1 rfl (Ext.cd 20 rfl (Ext.nil _)))) ?_
    refine W_if rfl (fun h20 => ?_) (fun h20 => ?_)
    ·
     refine W_sr ?_
     refine s_pu (p_move rfl) rfl ?_
     refine k_quiet (c_wrBlocky _ hsz _) hs (.cons rfl .nil) rfl ?_
     rintro _ _ ⟨b24, rfl⟩ hs _
     refine s_pu (p_assign rfl) rfl ?_
     refine WL_th ?_
     refine W_ret ?_
     refine bl_ret ?_
     refine th_ret ?_
     refine ret_tmp (fn := Tryz.f60) rfl rfl ?_
     exact ⟨⟨_, rfl⟩, hs.keep0⟩
    ·
     refine W_sr ?_
     refine s_pu (p_move rfl) rfl ?_
     refine s_pu (p_eqI rfl rfl) rfl ?_
     refine s_pu (p_assign rfl) rfl ?_
     refine WL_th ?_
     refine W_if rfl (fun h25 => ?_) (fun h25 => ?_)
     ·
      refine W_sr ?_
      refine s_pu (p_move rfl) rfl ?_
      refine k_quiet (c_wrFoldable _ hsz _) hs (.cons rfl .nil) rfl ?_
      rintro _ _ ⟨b29, rfl⟩ hs _
      refine s_pu (p_assign rfl) rfl ?_
      refine WL_th ?_
      refine W_ret ?_
      refine bl_ret ?_
      refine th_ret ?_
      refine ret_tmp (fn := Tryz.f60) rfl rfl ?_
      exact ⟨⟨_, rfl⟩, hs.keep0⟩
     ·
      refine W_skip ?_
      show W _ _ _ _ _ _
      refine W_sr ?_
      refine s_pu (p_move rfl) rfl ?_
      refine s_pu (p_eqI rfl rfl) rfl ?_
      refine s_pu (p_move rfl) rfl ?_
      refine WL_cutw 3 35 [] (fun b => True) (fun w => St wI (fun _ => False) w []) ?_ ?_
      ·
       refine s_bool 32 rfl (fun hb32 => ?_) (fun hb32 => ?_)
       ·
        refine g_take rfl rfl rfl ?_
        refine s_pu (p_move rfl) rfl ?_
        refine g_take rfl rfl rfl ?_
        refine k_quiet (c_wrAscii _ hsz _) hs (.cons rfl .nil) rfl ?_
        rintro _ _ ⟨b34, rfl⟩ hs _
        refine s_pu (p_pickT rfl rfl) rfl ?_
        refine WL_th ⟨hs, _, ?_, Ext.cons rfl ext_kn⟩
        trivial
       ·
        refine g_skip rfl rfl rfl rfl rfl ?_
        refine g_skip rfl rfl rfl rfl rfl ?_
        refine s_pu (p_pickF rfl rfl) rfl ?_
        refine WL_th ⟨hs, _, ?_, Ext.cons rfl ext_kn⟩
        trivial
      ·
       intro w35 b35 hs hb35
       refine WL_forget (Ext.cd 35 rfl (Ext.nil _)) ?_
       show WL _ _ _ (_ :: _) _ _ _
       refine s_pu (p_assign rfl) rfl ?_
       refine WL_th ?_
       refine W_ret ?_
       refine ret_tmp (fn := Tryz.f60) rfl rfl ?_
       exact ⟨⟨_, rfl⟩, hs.keep0⟩
theorem c_SignedOK : SignedOK NumT := fun s w hT => c_signed s (by obtain ⟨o, p, _, _, h1, _, h2, _⟩ := hT; omega) w
end Go.Proofs.YtmalghopogngoaaGreatDoor
set_option linter.unusedVariables false
set_option linter.unusedSimpArgs false
namespace Go.Proofs.YtmalghopogngoaaGreatDoor.MW
open Go Go.RowKit
theorem ba_ext {s t : ByteArray} (h : s.size = t.size) (hb : ∀ i, i < s.size → bt s i = bt t i) : s = t := by
 obtain ⟨a⟩ := s
 obtain ⟨b⟩ := t
 have : a = b := by
  apply Array.ext h
  intro i h1 h2
  have := hb i h1
  unfold bt at this
  rw [Array.getElem?_eq_getElem h1, Array.getElem?_eq_getElem h2] at this
  exact UInt8.toNat_inj.1 this
 rw [this]
theorem ba_eq_false {s t : ByteArray} (h : (s.toList == t.toList) = false) (hs : s.size = t.size) : ¬ ∀ i, i < s.size → bt s i = bt t i := fun hb => by
 rw [ba_ext hs hb, beq_self_eq_true] at h
 cases h
section
variable {P : Program} {N : Nat} {Q : Exit → Env → World → Prop} {e : Env} {w w0 : World} {ops : Array Oper} {rest : List Oper} {F : Foot} {G G' G0 : List Assn} {d : Nat} {ty : TypeId} {pos : String} {af : Array Edge}
/-- append(nil, s...). -/
theorem k_appS {T U el bytes : TypeId} [hE : Elt P T el 1 bytes] (hu : P.underlying U = some .string) {x y : Operand} {s : ByteArray} (hs : St w0 F w G) (hx : evo e x = some (.slice none 0 0)) (hy : evo e y = some (.string s)) (h0 : 0 < s.size) (h1 : s.size * bytes ≤ 281474976710656) (h2 : (s.size : Int) ≤ 9223372036854775807) (hN : Nat.blt d N = true)
  (h : ∀ b cap n f w', s.size ≤ n → (∀ i, i < s.size → f i = .int .u8 (bt s i)) → St w0 F w' (pt b el n f :: G) → WL P ops N rest Q (upd e d (.slice (some ⟨b, 0, none⟩) s.size cap)) w') : WL P ops N (⟨some d, .call ⟨.builtin .append, #[x, y], #[T, U]⟩, ty, pos, af, none⟩ :: rest) Q e w := by
 obtain ⟨i, z, hT, hi, hz, hsz, hbt, hzs, _⟩ := hE.out
 subst hbt
 have hr := run_append_nil_string (P := P) w T U
 have hr := fun ty => hr ty el i z hT hu hi hz s h0 h2 h1
 generalize hC : (s.data.map (fun b => Value.int .u8 b.toNat) ++ Builtin.zeroCells z.cells (grownCap w s.size 0 el - s.size)) = C at hr
 have hlen : (s.data.map fun b => Value.int .u8 b.toNat).size = s.size := by simp
 have hle : s.size ≤ C.size := by
  rw [← hC, Array.size_append, hlen]
  omega
 have hCs : C = mkA C.size fun i => C[i]?.getD undef := mkA_ext rfl fun i hi => by rw [Array.getElem?_eq_getElem hi]; rfl
 have hst := (hs.drew).alloc el C.size (fun i => C[i]?.getD undef)
 rw [← hCs] at hst
 have hf : ∀ i, i < s.size → C[i]?.getD undef = .int .u8 (bt s i) := fun i hi => by
  rw [← hC, Array.getElem?_append_left (by omega)]
  have h' : i < s.data.size := hi
  unfold bt
  rw [Array.getElem?_map, Array.getElem?_eq_getElem h']
  rfl
 have hmk : Mk P N e (.call ⟨.builtin .append, #[x, y], #[T, U]⟩) w (.slice (some ⟨w.heap.size, 0, none⟩) s.size (grownCap w s.size 0 el)) (w.drew.alloc (.cells C el)) := fun a ha d ty pos af g => by
  simp only [execOp, resolve, invoke, builtin, Sem.run_bind, Sem.run_pure, Result.andThen_ok, List.map_toArray, List.map_cons, List.map_nil, ha.eval hx, ha.eval hy, hr]
 exact s_mk hmk hN (h _ _ _ _ _ hle hf hst)
/-- string(b), where b holds the bytes of s. -/
theorem k_convBack {src el dst : TypeId} (h1 : P.underlying src = some (.slice el)) (h2 : P.underlying el = some (.int .u8)) (h3 : P.underlying dst = some .string) {x : Operand} {b T n cap : Nat} {f : Nat → Value} {s : ByteArray} (hs : St w0 F w G) (hp : Pick G (pt b T n f) G') (hx : evo e x = some (.slice (some ⟨b, 0, none⟩) s.size cap)) (hl : s.size ≤ n)
  (hf : ∀ i, i < s.size → f i = .int .u8 (bt s i)) (hN : Nat.blt d N = true) (h : WL P ops N rest Q (upd e d (.string s)) w) : WL P ops N (⟨some d, .convert src dst x, ty, pos, af, none⟩ :: rest) Q e w := by
 have hb := hs.cell hp
 have hlen : s.data.toList.length = s.size := by simp
 have hr := run_convert_bytes_back (P := P) w src dst el ⟨b, 0, none⟩ cap s.data.toList h1 h2 h3 (fun j hj => by
  have hj' : j < s.size := by omega
  rw [add_at, Nat.zero_add, pt_cell hb j (by omega), hf j hj', ← bt_eq hj']
  rfl)
 rw [hlen] at hr
 refine s_at (fun a ha d ty pos af g => ?_) hN h
 simp only [execOp, ha.eval hx]
 simp [hr]
end
end Go.Proofs.YtmalghopogngoaaGreatDoor.MW
set_option linter.unusedVariables false
set_option linter.unusedSimpArgs false
set_option maxRecDepth 4000
namespace Go.Proofs.YtmalghopogngoaaGreatDoor
open Go Go.RowKit MW
def Pre (p s : ByteArray) : Prop := p.size ≤ s.size ∧ ∀ i, i < p.size → bt s i = bt p i
theorem c_HasPrefix105 (s p : ByteArray) (wI : World) : Quiet Tryz.prog 105 [.string s, .string p] wI fun v => ∃ b, v = .bool b ∧ (b = true → Pre p s) ∧ (b = false → ¬ Pre p s) := by
 have hs := St.startNone wI
 refine calls_W (args := [_, _]) Tryz.func105 rfl Tryz.ntmps105 rfl ?_
 refine W_sr ?_
 refine s_pu (p_assign rfl) rfl ?_
 refine WL_th ?_
 refine W_sr ?_
 refine s_pu (p_move rfl) rfl ?_
 refine s_pu (p_lenS (by kernel_rfl) rfl) rfl ?_
 refine s_pu (p_move rfl) rfl ?_
 refine s_pu (p_lenS (by kernel_rfl) rfl) rfl ?_
 refine s_pu (p_geI rfl rfl) rfl ?_
 refine s_pu (p_move rfl) rfl ?_
 refine WL_cutb 7 17 [] (fun b => (b = true → Pre p s) ∧ (b = false → ¬ Pre p s)) ?_ ?_
 ·
  refine s_bool 10 rfl (fun hb10 => ?_) (fun hb10 => ?_)
  ·
   have hle : p.size ≤ s.size := by have := of_decide_eq_true hb10; omega
   have hsz : (s.extract 0 ((p.size : Int).toNat)).size = p.size := by rw [Int.toNat_natCast, ByteArray.size_extract]; omega
   have hbt : ∀ i, i < p.size → bt (s.extract 0 ((p.size : Int).toNat)) i = bt s i := fun i hi => by rw [bt_extract (by rw [hsz]; exact hi), Nat.zero_add]
   refine g_take rfl rfl rfl ?_
   refine s_pu (p_move rfl) rfl ?_
   refine g_take rfl rfl rfl ?_
   refine s_pu (p_move rfl) rfl ?_
   refine g_take rfl rfl rfl ?_
   refine s_pu (p_lenS (by kernel_rfl) rfl) rfl ?_
   refine g_take rfl rfl rfl ?_
   refine s_pu (p_subHi (by kernel_rfl) rfl rfl ?_ ?_) rfl ?_
   ·
    omega
   ·
    omega
   refine g_take rfl rfl rfl ?_
   refine s_pu (p_move rfl) rfl ?_
   refine g_take rfl rfl rfl ?_
   refine s_pu (p_eqS rfl rfl) rfl ?_
   refine s_pu (p_pickT rfl rfl) rfl ?_
   refine WL_th ⟨rfl, _, ?_, Ext.cons rfl ext_kn⟩
   exact ⟨fun h => ⟨hle, fun i hi => by rw [← hbt i hi, toList_inj h]⟩, fun h hp => ba_eq_false h hsz fun i hi => by rw [hbt i (by omega)]; exact hp.2 i (by omega)⟩
  ·
   refine g_skip rfl rfl rfl rfl rfl ?_
   refine g_skip rfl rfl rfl rfl rfl ?_
   refine g_skip rfl rfl rfl rfl rfl ?_
   refine g_skip rfl rfl rfl rfl rfl ?_
   refine g_skip rfl rfl rfl rfl rfl ?_
   refine g_skip rfl rfl rfl rfl rfl ?_
   refine s_pu (p_pickF rfl rfl) rfl ?_
   refine WL_th ⟨rfl, _, ?_, Ext.cons rfl ext_kn⟩
   exact ⟨fun h => (by cases h), fun _ hp => by have := of_decide_eq_false hb10; have := hp.1; omega⟩
 ·
  intro b17 hb17
  refine WL_forget (Ext.cd 17 rfl (Ext.nil _)) ?_
  show WL _ _ _ (_ :: _) _ _ _
  refine s_pu (p_assign rfl) rfl ?_
  refine WL_th ?_
  refine W_ret ?_
  refine ret_tmp (fn := Tryz.f105) rfl rfl ?_
  exact ⟨⟨_, rfl, hb17.1, hb17.2⟩, hs.keep0⟩
theorem c_HasPrefix (s p : ByteArray) (wI : World) : Quiet Tryz.prog 94 [.string s, .string p] wI fun v => ∃ b, v = .bool b ∧ (b = true → Pre p s) ∧ (b = false → ¬ Pre p s) := by
 have hs := St.startNone wI
 refine calls_W (args := [_, _]) Tryz.func94 rfl Tryz.ntmps94 rfl ?_
 refine W_sr ?_
 refine s_pu (p_assign rfl) rfl ?_
 refine WL_th ?_
 refine W_sr ?_
 refine s_pu (p_move rfl) rfl ?_
 refine s_pu (p_move rfl) rfl ?_
 refine k_quiet (c_HasPrefix105 _ _ _) hs (.cons rfl (.cons rfl .nil)) rfl ?_
 rintro _ _ ⟨b7, rfl, h1, h2⟩ hs _
 refine s_pu (p_assign rfl) rfl ?_
 refine WL_th ?_
 refine W_ret ?_
 refine ret_tmp (fn := Tryz.f94) rfl rfl ?_
 exact ⟨⟨b7, rfl, h1, h2⟩, hs.keep0⟩
theorem c_TrimPrefix107 (s p : ByteArray) (wI : World) : Quiet Tryz.prog 107 [.string s, .string p] wI fun v => ∃ u, v = .string u ∧ ((Pre p s ∧ u.size + p.size = s.size ∧ ∀ i, i < u.size → bt u i = bt s (p.size + i)) ∨ (¬ Pre p s ∧ u = s)) := by
 have hs := St.startNone wI
 refine calls_W (args := [_, _]) Tryz.func107 rfl Tryz.ntmps107 rfl ?_
 refine W_sr ?_
 refine s_pu (p_assign rfl) rfl ?_
 refine WL_th ?_
 refine W_seq ?_
 refine W_sr ?_
 refine s_pu (p_move rfl) rfl ?_
 refine s_pu (p_move rfl) rfl ?_
 refine k_quiet (c_HasPrefix105 _ _ _) hs (.cons rfl (.cons rfl .nil)) rfl ?_
 rintro _ _ ⟨b7, rfl, h1, h2⟩ hs _
 refine WL_th ?_
 refine W_if rfl (fun h7 => ?_) (fun h7 => ?_)
 ·
  have hP := h1 h7
  have hle := hP.1
  refine W_sr ?_
  refine s_pu (p_move rfl) rfl ?_
  refine s_pu (p_move rfl) rfl ?_
  refine s_pu (p_lenS (by kernel_rfl) rfl) rfl ?_
  refine s_pu (p_subLo (by kernel_rfl) rfl rfl ?_ ?_) rfl ?_
  ·
   omega
  ·
   omega
  refine s_pu (p_assign rfl) rfl ?_
  refine WL_th ?_
  refine W_ret ?_
  refine th_ret ?_
  refine ret_tmp (fn := Tryz.f107) rfl rfl ?_
  exact ⟨⟨_, rfl, .inl ⟨hP, by rw [Int.toNat_natCast, ByteArray.size_extract]; omega, fun i hi => by rw [Int.toNat_natCast] at hi ⊢; exact bt_extract hi⟩⟩, hs.keep0⟩
 ·
  refine W_skip_th ?_
  refine W_sr ?_
  refine s_pu (p_move rfl) rfl ?_
  refine s_pu (p_assign rfl) rfl ?_
  refine WL_th ?_
  refine W_ret ?_
  refine ret_tmp (fn := Tryz.f107) rfl rfl ?_
  exact ⟨⟨s, rfl, .inr ⟨h2 h7, rfl⟩⟩, hs.keep0⟩
theorem c_TrimPrefix (s p : ByteArray) (wI : World) : Quiet Tryz.prog 97 [.string s, .string p] wI fun v => ∃ u, v = .string u ∧ ((Pre p s ∧ u.size + p.size = s.size ∧ ∀ i, i < u.size → bt u i = bt s (p.size + i)) ∨ (¬ Pre p s ∧ u = s)) := by
 have hs := St.startNone wI
 refine calls_W (args := [_, _]) Tryz.func97 rfl Tryz.ntmps97 rfl ?_
 refine W_sr ?_
 refine s_pu (p_assign rfl) rfl ?_
 refine WL_th ?_
 refine W_sr ?_
 refine s_pu (p_move rfl) rfl ?_
 refine s_pu (p_move rfl) rfl ?_
 refine k_quiet (c_TrimPrefix107 _ _ _) hs (.cons rfl (.cons rfl .nil)) rfl ?_
 rintro _ _ ⟨u7, rfl, h1⟩ hs _
 refine s_pu (p_assign rfl) rfl ?_
 refine WL_th ?_
 refine W_ret ?_
 refine ret_tmp (fn := Tryz.f97) rfl rfl ?_
 exact ⟨⟨u7, rfl, h1⟩, hs.keep0⟩
theorem c_zzIndex (s p : ByteArray) (hp : p.size = 1) (hsz : s.size ≤ 1000) (hno : ∀ i, i < s.size → bt s i ≠ bt p 0) (wI : World) : Quiet Tryz.prog 106 [.string s, .string p] wI fun v => v = .int .i64 (-1) := by
 have hs := St.startNone wI
 refine calls_W (args := [_, _]) Tryz.func106 rfl Tryz.ntmps106 rfl ?_
 refine W_sr ?_
 refine s_pu (p_assign rfl) rfl ?_
 refine WL_th ?_
 refine W_seq ?_
 refine W_sr ?_
 refine s_pu (p_assign rfl) rfl ?_
 refine WL_th ?_
 refine W_block ?_
 refine W_loop (α := Nat) (fun x => (upd (upd (upd emp 5 (.int .i64 x)) 1 (.string p)) 0 (.string s))) (fun x w => x ≤ s.size ∧ St wI (fun _ => False) w []) (fun x => s.size - x) 0 (Ext.cons rfl (Ext.cons rfl (Ext.cons rfl (Ext.nil _)))) ⟨Nat.zero_le _, hs⟩ (fun x w hx => ?_)
 obtain ⟨hle, hs⟩ := hx
 refine W_seq ?_
 refine W_sr ?_
 refine s_pu (p_move rfl) rfl ?_
 refine s_pu (p_move rfl) rfl ?_
 refine s_pu (p_lenS (by kernel_rfl) rfl) rfl ?_
 refine s_pu (p_addI rfl rfl ?_) rfl ?_
 ·
  (first | assumption | omega)
 refine s_pu (p_move rfl) rfl ?_
 refine s_pu (p_lenS (by kernel_rfl) rfl) rfl ?_
 refine s_pu (p_leI rfl rfl) rfl ?_
 refine WL_th ?_
 refine W_if rfl (fun h12 => ?_) (fun h12 => ?_)
 ·
  have h12 := of_decide_eq_true h12
  have e1 : ((x : Int) + (p.size : Int)).toNat = x + p.size := by omega
  have hlt : x < s.size := by omega
  have hx1 : (s.extract x (x + p.size)).size = 1 ∧ bt (s.extract x (x + p.size)) 0 = bt s x := by
   rw [hp]
   have e : (s.extract x (x + 1)).size = 1 := by rw [ByteArray.size_extract]; omega
   exact ⟨e, by rw [bt_extract (by omega), Nat.add_zero]⟩
  refine W_skip_th ?_
  refine W_seq ?_
  refine W_block ?_
  refine W_sr ?_
  refine s_pu (p_move rfl) rfl ?_
  refine s_pu (p_move rfl) rfl ?_
  refine s_pu (p_move rfl) rfl ?_
  refine s_pu (p_move rfl) rfl ?_
  refine s_pu (p_lenS (by kernel_rfl) rfl) rfl ?_
  refine s_pu (p_addI rfl rfl ?_) rfl ?_
  ·
   (first | assumption | omega)
  refine s_pu (p_subS (by kernel_rfl) rfl rfl rfl ?_ ?_ ?_) rfl ?_
  ·
   omega
  ·
   omega
  ·
   omega
  refine s_pu (p_move rfl) rfl ?_
  refine s_pu (p_eqS rfl rfl) rfl ?_
  refine WL_th ?_
  refine W_forget (Ext.cd 0 rfl (Ext.cd 1 rfl (Ext.cd 5 rfl (Ext.cd 23 rfl (Ext.nil _))))) ?_
  refine W_if rfl (fun h23 => ?_) (fun h23 => ?_)
  ·
   exfalso
   have h23 : ((s.extract ((x : Int).toNat) ((x : Int) + (p.size : Int)).toNat).toList == p.toList) = true := h23
   rw [e1, Int.toNat_natCast] at h23
   have h3 := toList_inj h23
   rw [h3] at hx1
   exact hno x hlt hx1.2.symm
  ·
   refine W_skip ?_
   show W _ _ _ _ _ _
   refine W_reg ?_
   refine s_pu (p_move rfl) rfl ?_
   refine s_pu (p_addI rfl rfl ?_) rfl ?_
   ·
    (first | assumption | omega)
   refine s_pu (p_assign rfl) rfl ?_
   refine WL_th ?_
   refine ⟨x + 1, (Ext.cons rfl (Ext.cons rfl (Ext.cons (by show some (Value.int .i64 ((x : Int) + 1)) = _; simp) (Ext.nil _)))), ⟨by omega, hs⟩, by omega⟩
 ·
  refine W_exit ?_
  show W _ _ _ _ _ _
  refine W_sr ?_
  refine s_pu (p_assign rfl) rfl ?_
  refine WL_th ?_
  refine W_ret ?_
  refine ret_tmp (fn := Tryz.f106) rfl rfl ?_
  exact ⟨rfl, hs.keep0⟩
/-- How often a byte stands among the first n. -/
def cnt (s : ByteArray) (c : Nat) : Nat → Nat
 | 0 => 0
 | n + 1 => if bt s n = c then cnt s c n + 1 else cnt s c n
theorem cnt_le (s : ByteArray) (c : Nat) : ∀ n, cnt s c n ≤ n
 | 0 => Nat.le_refl _
 | n + 1 => by
  have := cnt_le s c n
  unfold cnt
  split <;> omega
theorem c_zzCount (s p : ByteArray) (hp : p.size = 1) (hsz : s.size ≤ 1000) (wI : World) : Quiet Tryz.prog 95 [.string s, .string p] wI fun v => v = .int .i64 (cnt s (bt p 0) s.size) := by
 have hs := St.startNone wI
 refine calls_W (args := [_, _]) Tryz.func95 rfl Tryz.ntmps95 rfl ?_
 refine W_sr ?_
 refine s_pu (p_assign rfl) rfl ?_
 refine WL_th ?_
 refine W_sr ?_
 refine s_pu (p_assign rfl) rfl ?_
 refine WL_th ?_
 refine W_seq ?_
 refine W_sr ?_
 refine s_pu (p_move rfl) rfl ?_
 refine s_pu (p_lenS (by kernel_rfl) rfl) rfl ?_
 refine s_pu (p_eqI rfl rfl) rfl ?_
 refine WL_th ?_
 refine W_if rfl (fun h9 => ?_) (fun h9 => ?_)
 ·
  exfalso
  have := eq_of_beq h9
  omega
 ·
  refine W_skip_th ?_
  refine W_seq ?_
  refine W_sr ?_
  refine s_pu (p_assign rfl) rfl ?_
  refine WL_th ?_
  refine W_block ?_
  refine W_loop (α := Nat) (fun x => (upd (upd (upd (upd emp 6 (.int .i64 x)) 5 (.int .i64 (cnt s (bt p 0) x))) 1 (.string p)) 0 (.string s))) (fun x w => x ≤ s.size ∧ St wI (fun _ => False) w []) (fun x => s.size - x) 0 (Ext.cons rfl (Ext.cons rfl (Ext.cons rfl (Ext.cons rfl (Ext.nil _))))) ⟨Nat.zero_le _, hs⟩ (fun x w hx => ?_)
  obtain ⟨hle, hs⟩ := hx
  have hcl := cnt_le s (bt p 0) x
  refine W_seq ?_
  refine W_sr ?_
  refine s_pu (p_move rfl) rfl ?_
  refine s_pu (p_move rfl) rfl ?_
  refine s_pu (p_lenS (by kernel_rfl) rfl) rfl ?_
  refine s_pu (p_addI rfl rfl ?_) rfl ?_
  ·
   (first | assumption | omega)
  refine s_pu (p_move rfl) rfl ?_
  refine s_pu (p_lenS (by kernel_rfl) rfl) rfl ?_
  refine s_pu (p_leI rfl rfl) rfl ?_
  refine WL_th ?_
  refine W_if rfl (fun h24 => ?_) (fun h24 => ?_)
  ·
   have h24 := of_decide_eq_true h24
   have e1 : ((x : Int) + (p.size : Int)).toNat = x + p.size := by omega
   have hlt : x < s.size := by omega
   have hx1 : (s.extract x (x + p.size)).size = 1 ∧ bt (s.extract x (x + p.size)) 0 = bt s x := by
    rw [hp]
    have e : (s.extract x (x + 1)).size = 1 := by rw [ByteArray.size_extract]; omega
    exact ⟨e, by rw [bt_extract (by omega), Nat.add_zero]⟩
   refine W_skip_th ?_
   refine W_block ?_
   refine W_sr ?_
   refine s_pu (p_move rfl) rfl ?_
   refine s_pu (p_move rfl) rfl ?_
   refine s_pu (p_move rfl) rfl ?_
   refine s_pu (p_move rfl) rfl ?_
   refine s_pu (p_lenS (by kernel_rfl) rfl) rfl ?_
   refine s_pu (p_addI rfl rfl ?_) rfl ?_
   ·
    (first | assumption | omega)
   refine s_pu (p_subS (by kernel_rfl) rfl rfl rfl ?_ ?_ ?_) rfl ?_
   ·
    omega
   ·
    omega
   ·
    omega
   refine s_pu (p_move rfl) rfl ?_
   refine s_pu (p_eqS rfl rfl) rfl ?_
   refine WL_th ?_
   refine W_forget (Ext.cd 0 rfl (Ext.cd 1 rfl (Ext.cd 5 rfl (Ext.cd 6 rfl (Ext.cd 33 rfl (Ext.nil _)))))) ?_
   refine W_if rfl (fun h33 => ?_) (fun h33 => ?_)
   ·
    have h33 : ((s.extract ((x : Int).toNat) ((x : Int) + (p.size : Int)).toNat).toList == p.toList) = true := h33
    rw [e1, Int.toNat_natCast] at h33
    have h3 := toList_inj h33
    have hcc : cnt s (bt p 0) (x + 1) = cnt s (bt p 0) x + 1 := by rw [h3] at hx1; rw [cnt, if_pos hx1.2.symm]
    have hcn : some (Value.int .i64 ((cnt s (bt p 0) x : Int) + 1)) = some (Value.int .i64 (cnt s (bt p 0) (x + 1) : Nat)) := by rw [hcc]; rfl
    refine W_sr ?_
    refine s_pu (p_move rfl) rfl ?_
    refine s_pu (p_addI rfl rfl ?_) rfl ?_
    ·
     omega
    refine s_pu (p_assign rfl) rfl ?_
    refine WL_th ?_
    refine W_reg ?_
    refine s_pu (p_move rfl) rfl ?_
    refine s_pu (p_move rfl) rfl ?_
    refine s_pu (p_lenS (by kernel_rfl) rfl) rfl ?_
    refine s_pu (p_addI rfl rfl ?_) rfl ?_
    ·
     (first | assumption | omega)
    refine s_pu (p_assign rfl) rfl ?_
    refine WL_nil ?_
    show ∃ _, _
    refine ⟨x + 1, (Ext.cons rfl (Ext.cons rfl (Ext.cons hcn (Ext.cons (by show some (Value.int .i64 ((x : Int) + _)) = _; first | rfl | (rw [hp]; rfl)) (Ext.nil _))))), ⟨by omega, hs⟩, by omega⟩
   ·
    have h33 : ((s.extract ((x : Int).toNat) ((x : Int) + (p.size : Int)).toNat).toList == p.toList) = false := h33
    rw [e1, Int.toNat_natCast] at h33
    have hne : ¬ bt s x = bt p 0 := fun h => ba_eq_false h33 (by omega) fun i hi => by have h0 : i = 0 := (by omega); rw [h0, hx1.2, h]
    have hcc : cnt s (bt p 0) (x + 1) = cnt s (bt p 0) x := by rw [cnt, if_neg hne]
    have hcn : some (Value.int .i64 (cnt s (bt p 0) x : Nat)) = some (Value.int .i64 (cnt s (bt p 0) (x + 1) : Nat)) := by rw [hcc]
    refine W_reg ?_
    refine s_pu (p_move rfl) rfl ?_
    refine s_pu (p_addI rfl rfl ?_) rfl ?_
    ·
     (first | assumption | omega)
    refine s_pu (p_assign rfl) rfl ?_
    refine WL_nil ?_
    show ∃ _, _
    refine ⟨x + 1, (Ext.cons rfl (Ext.cons rfl (Ext.cons hcn (Ext.cons (by show some (Value.int .i64 ((x : Int) + _)) = _; first | rfl | (rw [hp]; rfl)) (Ext.nil _))))), ⟨by omega, hs⟩, by omega⟩
  ·
   have hxe : x = s.size := by have := of_decide_eq_false h24; omega
   subst hxe
   refine W_exit ?_
   show W _ _ _ _ _ _
   refine W_sr ?_
   refine s_pu (p_move rfl) rfl ?_
   refine s_pu (p_assign rfl) rfl ?_
   refine WL_th ?_
   refine W_forget (Ext.cd 4 rfl (Ext.nil _)) ?_
   refine W_ret ?_
   refine ret_tmp (fn := Tryz.f95) rfl rfl ?_
   exact ⟨rfl, hs.keep0⟩
theorem c_zzReplaceAll (s p q : ByteArray) (hp : p.size = 1) (h0 : 0 < s.size) (hsz : s.size ≤ 1000) (hno : ∀ i, i < s.size → bt s i ≠ bt p 0) (wI : World) : Quiet Tryz.prog 96 [.string s, .string p, .string q] wI fun v => v = .string s := by
 have hs := St.startNone wI
 refine calls_W (args := [_, _, _]) Tryz.func96 rfl Tryz.ntmps96 rfl ?_
 refine W_sr ?_
 refine s_pu (p_assign rfl) rfl ?_
 refine WL_th ?_
 refine W_sr ?_
 refine s_pu (p_assign rfl) rfl ?_
 refine WL_th ?_
 refine W_block ?_
 refine W_loop (α := Unit) (fun x => (upd (upd (upd (upd emp 7 (.slice none 0 0)) 2 (.string q)) 1 (.string p)) 0 (.string s))) (fun x w => St wI (fun _ => False) w []) (fun x => 0) () (Ext.cons rfl (Ext.cons rfl (Ext.cons rfl (Ext.cons rfl (Ext.nil _))))) hs (fun x w hx => ?_)
 have hs := hx
 refine W_block ?_
 refine W_sr ?_
 refine s_pu (p_move rfl) rfl ?_
 refine s_pu (p_move rfl) rfl ?_
 refine k_quiet (c_zzIndex _ _ hp hsz hno _) hs (.cons rfl (.cons rfl .nil)) rfl ?_
 rintro _ _ rfl hs _
 refine s_pu (p_assign rfl) rfl ?_
 refine WL_th ?_
 refine W_seq ?_
 refine W_sr ?_
 refine s_pu (p_move rfl) rfl ?_
 refine s_pu (p_ltI rfl rfl) rfl ?_
 refine WL_th ?_
 refine W_true rfl ?_
 refine W_sr ?_
 refine s_pu (p_move rfl) rfl ?_
 refine s_pu (p_move rfl) rfl ?_
 refine k_appS (by kernel_rfl) hs rfl rfl h0 (by omega) (by omega) rfl ?_
 intro b16 cap16 n16 f16 _ hn16 hf16 hs
 refine k_convBack (el := 5) (by kernel_rfl) (by kernel_rfl) (by kernel_rfl) hs .head rfl hn16 hf16 rfl ?_
 refine s_pu (p_assign rfl) rfl ?_
 refine WL_th ?_
 refine W_forget (Ext.cd 6 rfl (Ext.nil _)) ?_
 refine W_ret ?_
 refine th_ret ?_
 refine bl_ret ?_
 refine th_ret ?_
 refine bl_ret ?_
 refine ret_tmp (fn := Tryz.f96) rfl rfl ?_
 exact ⟨rfl, hs.keep0⟩
end Go.Proofs.YtmalghopogngoaaGreatDoor
set_option linter.unusedVariables false
set_option linter.unusedSimpArgs false
set_option maxRecDepth 100000
namespace Go.Proofs.YtmalghopogngoaaGreatDoor
open Go Go.RowKit MW
theorem c_ParseUint110 (s : ByteArray) (h1 : 1 ≤ s.size) (h18 : s.size ≤ 18) (hd : ∀ i, i < s.size → dig (bt s i)) (wI : World) : Quiet Tryz.prog 110 [.string s, .int .i64 10, .int .i64 64] wI fun v => ∃ n : Nat, v = .tuple #[.int .u64 n, .nilIface] ∧ n < 10 ^ 18 := by
 have hs := St.startNone wI
 refine calls_W (args := [_, _, _]) Tryz.func110 rfl Tryz.ntmps110 rfl ?_
 refine W_sr ?_
 refine s_pu (p_assign rfl) rfl ?_
 refine s_pu (p_assign rfl) rfl ?_
 refine WL_th ?_
 refine W_forget (Ext.cd 0 rfl (Ext.cd 1 rfl (Ext.cd 2 rfl (Ext.nil _)))) ?_
 refine W_seq ?_
 refine W_sr ?_
 refine s_pu (p_move rfl) rfl ?_
 refine s_pu (p_eqS rfl rfl) rfl ?_
 refine WL_th ?_
 refine W_if rfl (fun h19 => ?_) (fun h19 => ?_)
 ·
  exfalso
  have := toList_inj h19
  subst this
  exact absurd h1 (by decide)
 ·
  refine W_skip_th ?_
  refine W_forget (Ext.cd 0 rfl (Ext.cd 1 rfl (Ext.cd 2 rfl (Ext.nil _)))) ?_
  refine W_sr ?_
  refine s_pu (p_move rfl) rfl ?_
  refine s_pu (p_eqI rfl rfl) rfl ?_
  refine s_pu (p_assign rfl) rfl ?_
  refine WL_th ?_
  refine W_forget (Ext.cd 0 rfl (Ext.cd 1 rfl (Ext.cd 2 rfl (Ext.cd 8 rfl (Ext.nil _))))) ?_
  refine W_sr ?_
  refine s_pu (p_move rfl) rfl ?_
  refine s_pu (p_assign rfl) rfl ?_
  refine WL_th ?_
  refine W_seq ?_
  refine W_block ?_
  refine W_sr ?_
  refine s_pu (p_move rfl) rfl ?_
  refine s_pu (p_leI rfl rfl) rfl ?_
  refine s_pu (p_move rfl) rfl ?_
  refine WL_cutb 3 31 [0, 1, 2, 8, 9] (fun b => b = true) ?_ ?_
  ·
   refine s_bool 28 rfl (fun hb28 => ?_) (fun hb28 => ?_)
   ·
    refine g_take rfl rfl rfl ?_
    refine s_pu (p_move rfl) rfl ?_
    refine g_take rfl rfl rfl ?_
    refine s_pu (p_leI rfl rfl) rfl ?_
    refine s_pu (p_pickT rfl rfl) rfl ?_
    refine WL_th ⟨rfl, _, ?_, Ext.cons rfl (ext_kd rfl rfl (ext_kd rfl rfl (ext_kd rfl rfl (ext_kd rfl rfl (ext_kd rfl rfl ext_kn)))))⟩
    decide
   ·
    refine g_skip rfl rfl rfl rfl rfl ?_
    refine g_skip rfl rfl rfl rfl rfl ?_
    refine s_pu (p_pickF rfl rfl) rfl ?_
    refine WL_th ⟨rfl, _, ?_, Ext.cons rfl (ext_kd rfl rfl (ext_kd rfl rfl (ext_kd rfl rfl (ext_kd rfl rfl (ext_kd rfl rfl ext_kn)))))⟩
    exact absurd hb28 (by decide)
  ·
   intro b31 hb31
   refine WL_forget (Ext.cd 0 rfl (Ext.cd 1 rfl (Ext.cd 2 rfl (Ext.cd 8 rfl (Ext.cd 9 rfl (Ext.cd 31 rfl (Ext.nil _))))))) ?_
   show WL _ _ _ (_ :: _) _ _ _
   refine s_pu (p_assign rfl) rfl ?_
   refine WL_th ?_
   refine W_true (congrArg (fun b => some (Value.bool b)) hb31) ?_
   refine W_skip ?_
   show W _ _ _ _ _ _
   refine W_forget (Ext.cd 0 rfl (Ext.cd 1 rfl (Ext.cd 2 rfl (Ext.cd 8 rfl (Ext.cd 9 rfl (Ext.nil _)))))) ?_
   refine W_seq ?_
   refine W_sr ?_
   refine s_pu (p_move rfl) rfl ?_
   refine s_pu (p_eqI rfl rfl) rfl ?_
   refine WL_th ?_
   refine W_false rfl ?_
   refine W_sr ?_
   refine s_pu (p_move rfl) rfl ?_
   refine s_pu (p_ltI rfl rfl) rfl ?_
   refine s_pu (p_move rfl) rfl ?_
   refine WL_cutb 3 83 [0, 1, 2, 8, 9] (fun b => b = false) ?_ ?_
   ·
    refine s_bool 80 rfl (fun hb80 => ?_) (fun hb80 => ?_)
    ·
     refine g_skip rfl rfl rfl rfl rfl ?_
     refine g_skip rfl rfl rfl rfl rfl ?_
     refine s_pu (p_pickT rfl rfl) rfl ?_
     refine WL_th ⟨rfl, _, ?_, Ext.cons rfl (ext_kd rfl rfl (ext_kd rfl rfl (ext_kd rfl rfl (ext_kd rfl rfl (ext_kd rfl rfl ext_kn)))))⟩
     exact absurd hb80 (by decide)
    ·
     refine g_take rfl rfl rfl ?_
     refine s_pu (p_move rfl) rfl ?_
     refine g_take rfl rfl rfl ?_
     refine s_pu (p_gtI rfl rfl) rfl ?_
     refine s_pu (p_pickF rfl rfl) rfl ?_
     refine WL_th ⟨rfl, _, ?_, Ext.cons rfl (ext_kd rfl rfl (ext_kd rfl rfl (ext_kd rfl rfl (ext_kd rfl rfl (ext_kd rfl rfl ext_kn)))))⟩
     decide
   ·
    intro b83 hb83
    refine WL_forget (Ext.cd 0 rfl (Ext.cd 1 rfl (Ext.cd 2 rfl (Ext.cd 8 rfl (Ext.cd 9 rfl (Ext.cd 83 rfl (Ext.nil _))))))) ?_
    show WL _ _ _ [] _ _ _
    refine WL_th ?_
    refine W_false (congrArg (fun b => some (Value.bool b)) hb83) ?_
    refine W_skip_th ?_
    refine W_sr ?_
    refine s_pu (p_assign rfl) rfl ?_
    refine WL_th ?_
    refine W_forget (Ext.cd 0 rfl (Ext.cd 1 rfl (Ext.cd 2 rfl (Ext.cd 8 rfl (Ext.cd 9 rfl (Ext.nil _)))))) ?_
    refine W_seq ?_
    refine W_sr ?_
    refine s_pu (p_move rfl) rfl ?_
    refine WL_th ?_
    refine W_block ?_
    refine W_sr ?_
    refine s_pu (p_eqI rfl rfl) rfl ?_
    refine s_pu (p_assign rfl) rfl ?_
    refine WL_th ?_
    refine W_true rfl ?_
    refine W_reg ?_
    refine s_pu (p_assign rfl) rfl ?_
    refine WL_nil ?_
    show W _ _ _ _ _ _
    refine W_forget (Ext.cd 0 rfl (Ext.cd 1 rfl (Ext.cd 2 rfl (Ext.cd 8 rfl (Ext.cd 9 rfl (Ext.cd 10 rfl (Ext.nil _))))))) ?_
    refine W_sr ?_
    refine s_pu (p_move rfl) rfl ?_
    refine s_pu (p_conv rfl) rfl ?_
    refine s_pu (p_shl rfl rfl ?_) rfl ?_
    ·
     exact (wrU64_ge _).1
    refine s_pu (p_subW rfl rfl) rfl ?_
    rw [show IntKind.u64.wrap (IntKind.u64.wrap (1 * 2 ^ min (IntKind.u64.wrap 64).toNat IntKind.u64.bits) - 1) = 18446744073709551615 from by decide]
    generalize hmx : (18446744073709551615 : Int) = mx
    generalize hmc : (1844674407370955162 : Int) = mc
    refine s_pu (p_assign rfl) rfl ?_
    refine WL_th ?_
    refine W_forget (Ext.cd 0 rfl (Ext.cd 1 rfl (Ext.cd 8 rfl (Ext.cd 9 rfl (Ext.cd 10 rfl (Ext.cd 11 rfl (Ext.nil _))))))) ?_
    refine W_sr ?_
    refine s_pu (p_assign rfl) rfl ?_
    refine WL_th ?_
    refine W_sr ?_
    refine s_pu (p_assign rfl) rfl ?_
    refine WL_th ?_
    refine W_seq ?_
    refine W_sr ?_
    refine s_pu (p_move rfl) rfl ?_
    refine k_convSB (el := 5) (by kernel_rfl) (by kernel_rfl) (by kernel_rfl) hs rfl rfl ?_
    intro b99 cap99 n99 _ hn99 hs
    refine s_pu (p_lenL rfl) rfl ?_
    refine s_pu (p_move rfl) rfl ?_
    refine WL_th ?_
    refine W_forget (Ext.cd 1 rfl (Ext.cd 8 rfl (Ext.cd 9 rfl (Ext.cd 10 rfl (Ext.cd 11 rfl (Ext.cd 12 rfl (Ext.cd 13 rfl (Ext.cd 99 rfl (Ext.cd 100 rfl (Ext.cd 101 rfl (Ext.nil _))))))))))) ?_
    refine W_block ?_
    refine W_loop (α := Nat × Nat) (fun x => (upd (upd (upd (upd (upd (upd (upd (upd (upd (upd emp 101 (.int .i64 x.1)) 100 (.int .i64 s.size)) 99 (.slice (some ⟨b99, 0, none⟩) s.size cap99)) 13 (.int .u64 x.2)) 12 (.bool false)) 11 (.int .u64 mx)) 10 (.int .u64 mc)) 9 (.string s)) 8 (.bool false)) 1 (.int .i64 10))) (fun x w => x.1 ≤ s.size ∧ x.2 < 10 ^ x.1 ∧ St wI (fun _ => False) w [ptz b99 5 n99 (fun i => bt s i)]) (fun x => s.size - x.1) (0, 0) (Ext.cons rfl (Ext.cons rfl (Ext.cons rfl (Ext.cons rfl (Ext.cons rfl (Ext.cons rfl (Ext.cons rfl (Ext.cons rfl (Ext.cons rfl (Ext.cons rfl (Ext.nil _))))))))))) ⟨Nat.zero_le _, by decide, hs⟩ (fun x w hx => ?_)
    obtain ⟨hle, hn, hs⟩ := hx
    obtain ⟨xi, n⟩ := x
    simp only at hle hn hs
    refine W_sr ?_
    refine s_pu (p_ltI rfl rfl) rfl ?_
    refine WL_th ?_
    refine W_seq ?_
    refine W_if rfl (fun h102 => ?_) (fun h102 => ?_)
    ·
     have hlt : xi < s.size := by have := of_decide_eq_true h102; simp only at this; omega
     have hp17 : 10 ^ xi ≤ 10 ^ 17 := Nat.pow_le_pow_right (by decide) (by omega)
     have e17 : 10 ^ 17 = 100000000000000000 := by decide
     obtain ⟨dg, hdg, hdg9⟩ : ∃ dg, bt s xi = 48 + dg ∧ dg ≤ 9 := ⟨bt s xi - 48, by have := (hd xi hlt).1; omega, by have := (hd xi hlt).2; omega⟩
     refine W_skip_th ?_
     refine W_seq ?_
     refine W_block ?_
     refine W_sr ?_
     refine s_pu (p_elem (i := (xi : Int)) rfl rfl (by omega) (by omega)) rfl ?_
     refine k_ldz (o := 0 + ((xi : Int).toNat) * 1) hs rfl .head (by rw [Int.toNat_natCast]; omega) rfl ?_
     rw [show bt s (0 + ((xi : Int).toNat) * 1) = 48 + dg by rw [Int.toNat_natCast, Nat.zero_add, Nat.mul_one]; exact hdg]
     refine s_pu (p_assign rfl) rfl ?_
     refine WL_th ?_
     refine W_forget (Ext.cd 1 rfl (Ext.cd 8 rfl (Ext.cd 9 rfl (Ext.cd 10 rfl (Ext.cd 11 rfl (Ext.cd 12 rfl (Ext.cd 13 rfl (Ext.cd 15 rfl (Ext.cd 99 rfl (Ext.cd 100 rfl (Ext.cd 101 rfl (Ext.nil _)))))))))))) ?_
     refine W_sr ?_
     refine s_pu (p_assign rfl) rfl ?_
     refine WL_th ?_
     refine W_seq ?_
     refine W_block ?_
     refine W_sr ?_
     refine s_pu (p_move rfl) rfl ?_
     refine s_pu (p_eqI rfl rfl) rfl ?_
     refine s_pu (p_move rfl) rfl ?_
     refine WL_cutb 2 111 [1, 8, 9, 10, 11, 12, 13, 15, 99, 100, 101] (fun b => b = false) ?_ ?_
     ·
      refine s_bool 109 rfl (fun hb109 => ?_) (fun hb109 => ?_)
      ·
       refine g_take rfl rfl rfl ?_
       refine s_pu (p_move rfl) rfl ?_
       refine s_pu (p_pickT rfl rfl) rfl ?_
       refine WL_th ⟨rfl, _, ?_, Ext.cons rfl (ext_kd rfl rfl (ext_kd rfl rfl (ext_kd rfl rfl (ext_kd rfl rfl (ext_kd rfl rfl (ext_kd rfl rfl (ext_kd rfl rfl (ext_kd rfl rfl (ext_kd rfl rfl (ext_kd rfl rfl (ext_kd rfl rfl ext_kn)))))))))))⟩
       exfalso; have h1 : (((48 + dg : Nat) : Int) == 95) = true := hb109; have := eq_of_beq h1; omega
      ·
       refine g_skip rfl rfl rfl rfl rfl ?_
       refine s_pu (p_pickF rfl rfl) rfl ?_
       refine WL_th ⟨rfl, _, ?_, Ext.cons rfl (ext_kd rfl rfl (ext_kd rfl rfl (ext_kd rfl rfl (ext_kd rfl rfl (ext_kd rfl rfl (ext_kd rfl rfl (ext_kd rfl rfl (ext_kd rfl rfl (ext_kd rfl rfl (ext_kd rfl rfl (ext_kd rfl rfl ext_kn)))))))))))⟩
       rfl
     ·
      intro b111 hb111
      refine WL_forget (Ext.cd 1 rfl (Ext.cd 8 rfl (Ext.cd 9 rfl (Ext.cd 10 rfl (Ext.cd 11 rfl (Ext.cd 12 rfl (Ext.cd 13 rfl (Ext.cd 15 rfl (Ext.cd 99 rfl (Ext.cd 100 rfl (Ext.cd 101 rfl (Ext.cd 111 rfl (Ext.nil _))))))))))))) ?_
      show WL _ _ _ (_ :: _) _ _ _
      refine s_pu (p_assign rfl) rfl ?_
      refine WL_th ?_
      refine W_false (congrArg (fun b => some (Value.bool b)) hb111) ?_
      refine W_sr ?_
      refine s_pu (p_move rfl) rfl ?_
      refine s_pu (p_leI rfl rfl) rfl ?_
      refine s_pu (p_move rfl) rfl ?_
      refine WL_cutb 3 118 [1, 8, 9, 10, 11, 12, 13, 15, 99, 100, 101] (fun b => b = true) ?_ ?_
      ·
       refine s_bool 115 rfl (fun hb115 => ?_) (fun hb115 => ?_)
       ·
        refine g_take rfl rfl rfl ?_
        refine s_pu (p_move rfl) rfl ?_
        refine g_take rfl rfl rfl ?_
        refine s_pu (p_leI rfl rfl) rfl ?_
        refine s_pu (p_pickT rfl rfl) rfl ?_
        refine WL_th ⟨rfl, _, ?_, Ext.cons rfl (ext_kd rfl rfl (ext_kd rfl rfl (ext_kd rfl rfl (ext_kd rfl rfl (ext_kd rfl rfl (ext_kd rfl rfl (ext_kd rfl rfl (ext_kd rfl rfl (ext_kd rfl rfl (ext_kd rfl rfl (ext_kd rfl rfl ext_kn)))))))))))⟩
        exact decide_eq_true (show ((48 + dg : Nat) : Int) ≤ 57 by omega)
       ·
        refine g_skip rfl rfl rfl rfl rfl ?_
        refine g_skip rfl rfl rfl rfl rfl ?_
        refine s_pu (p_pickF rfl rfl) rfl ?_
        refine WL_th ⟨rfl, _, ?_, Ext.cons rfl (ext_kd rfl rfl (ext_kd rfl rfl (ext_kd rfl rfl (ext_kd rfl rfl (ext_kd rfl rfl (ext_kd rfl rfl (ext_kd rfl rfl (ext_kd rfl rfl (ext_kd rfl rfl (ext_kd rfl rfl (ext_kd rfl rfl ext_kn)))))))))))⟩
        exfalso; have h1 := of_decide_eq_false hb115; omega
      ·
       intro b118 hb118
       refine WL_forget (Ext.cd 1 rfl (Ext.cd 8 rfl (Ext.cd 9 rfl (Ext.cd 10 rfl (Ext.cd 11 rfl (Ext.cd 12 rfl (Ext.cd 13 rfl (Ext.cd 15 rfl (Ext.cd 99 rfl (Ext.cd 100 rfl (Ext.cd 101 rfl (Ext.cd 118 rfl (Ext.nil _))))))))))))) ?_
       show WL _ _ _ (_ :: _) _ _ _
       refine s_pu (p_assign rfl) rfl ?_
       refine WL_th ?_
       refine W_true (congrArg (fun b => some (Value.bool b)) hb118) ?_
       refine W_reg ?_
       refine s_pu (p_move rfl) rfl ?_
       refine s_pu (p_subW rfl rfl) rfl ?_
       rw [show IntKind.u8.wrap (((48 + dg : Nat) : Int) - 48) = (dg : Int) from by rw [wrU8 (by omega) (by omega)]; omega]
       refine s_pu (p_assign rfl) rfl ?_
       refine WL_nil ?_
       show W _ _ _ _ _ _
       refine W_forget (Ext.cd 1 rfl (Ext.cd 8 rfl (Ext.cd 9 rfl (Ext.cd 10 rfl (Ext.cd 11 rfl (Ext.cd 12 rfl (Ext.cd 13 rfl (Ext.cd 16 rfl (Ext.cd 99 rfl (Ext.cd 100 rfl (Ext.cd 101 rfl (Ext.nil _)))))))))))) ?_
       refine W_seq ?_
       refine W_sr ?_
       refine s_pu (p_move rfl) rfl ?_
       refine s_pu (p_move rfl) rfl ?_
       refine s_pu (p_conv rfl) rfl ?_
       rw [show IntKind.u8.wrap 10 = 10 from by decide]
       refine s_pu (p_geI rfl rfl) rfl ?_
       refine WL_th ?_
       refine W_forget (Ext.cd 1 rfl (Ext.cd 8 rfl (Ext.cd 9 rfl (Ext.cd 10 rfl (Ext.cd 11 rfl (Ext.cd 12 rfl (Ext.cd 13 rfl (Ext.cd 16 rfl (Ext.cd 99 rfl (Ext.cd 100 rfl (Ext.cd 101 rfl (Ext.cd 137 rfl (Ext.nil _))))))))))))) ?_
       refine W_if rfl (fun h137 => ?_) (fun h137 => ?_)
       ·
        exfalso
        have h1 := of_decide_eq_true h137
        omega
       ·
        refine W_skip_th ?_
        refine W_seq ?_
        refine W_sr ?_
        refine s_pu (p_move rfl) rfl ?_
        refine s_pu (p_move rfl) rfl ?_
        refine s_pu (p_geI rfl rfl) rfl ?_
        refine WL_th ?_
        refine W_forget (Ext.cd 1 rfl (Ext.cd 8 rfl (Ext.cd 9 rfl (Ext.cd 10 rfl (Ext.cd 11 rfl (Ext.cd 12 rfl (Ext.cd 13 rfl (Ext.cd 16 rfl (Ext.cd 99 rfl (Ext.cd 100 rfl (Ext.cd 101 rfl (Ext.cd 141 rfl (Ext.nil _))))))))))))) ?_
        refine W_if rfl (fun h141 => ?_) (fun h141 => ?_)
        ·
         exfalso
         have h1 := of_decide_eq_true h141
         simp only at h1
         omega
        ·
         refine W_skip_th ?_
         refine W_sr ?_
         refine s_pu (p_move rfl) rfl ?_
         refine s_pu (p_move rfl) rfl ?_
         refine s_pu (p_conv rfl) rfl ?_
         rw [show IntKind.u64.wrap 10 = 10 from by decide]
         refine s_pu (p_mulW rfl rfl) rfl ?_
         rw [show IntKind.u64.wrap ((n : Int) * 10) = ((n * 10 : Nat) : Int) from by rw [wrU64 (by omega) (by omega)]; simp]
         refine s_pu (p_assign rfl) rfl ?_
         refine WL_th ?_
         refine W_forget (Ext.cd 1 rfl (Ext.cd 8 rfl (Ext.cd 9 rfl (Ext.cd 10 rfl (Ext.cd 11 rfl (Ext.cd 12 rfl (Ext.cd 13 rfl (Ext.cd 16 rfl (Ext.cd 99 rfl (Ext.cd 100 rfl (Ext.cd 101 rfl (Ext.nil _)))))))))))) ?_
         refine W_sr ?_
         refine s_pu (p_move rfl) rfl ?_
         refine s_pu (p_move rfl) rfl ?_
         refine s_pu (p_conv rfl) rfl ?_
         rw [show IntKind.u64.wrap (dg : Int) = (dg : Int) from wrU64 (by omega) (by omega)]
         refine s_pu (p_addW rfl rfl) rfl ?_
         rw [show IntKind.u64.wrap (((n * 10 : Nat) : Int) + (dg : Int)) = ((n * 10 + dg : Nat) : Int) from by rw [wrU64 (by omega) (by omega)]; simp]
         generalize hA : ((n * 10 + dg : Nat) : Int) = A
         refine s_pu (p_assign rfl) rfl ?_
         refine WL_th ?_
         refine W_forget (Ext.cd 1 rfl (Ext.cd 8 rfl (Ext.cd 9 rfl (Ext.cd 10 rfl (Ext.cd 11 rfl (Ext.cd 12 rfl (Ext.cd 13 rfl (Ext.cd 17 rfl (Ext.cd 99 rfl (Ext.cd 100 rfl (Ext.cd 101 rfl (Ext.nil _)))))))))))) ?_
         refine W_seq ?_
         refine W_sr ?_
         refine s_pu (p_move rfl) rfl ?_
         refine s_pu (p_move rfl) rfl ?_
         refine s_pu (p_ltI rfl rfl) rfl ?_
         refine s_pu (p_move rfl) rfl ?_
         refine WL_cutb 4 159 [1, 8, 9, 10, 11, 12, 17, 99, 100, 101] (fun b => b = false) ?_ ?_
         ·
          refine s_bool 155 rfl (fun hb155 => ?_) (fun hb155 => ?_)
          ·
           refine g_skip rfl rfl rfl rfl rfl ?_
           refine g_skip rfl rfl rfl rfl rfl ?_
           refine g_skip rfl rfl rfl rfl rfl ?_
           refine s_pu (p_pickT rfl rfl) rfl ?_
           refine WL_th ⟨rfl, _, ?_, Ext.cons rfl (ext_kd rfl rfl (ext_kd rfl rfl (ext_kd rfl rfl (ext_kd rfl rfl (ext_kd rfl rfl (ext_kd rfl rfl (ext_kd rfl rfl (ext_kd rfl rfl (ext_kd rfl rfl (ext_kd rfl rfl ext_kn))))))))))⟩
           exfalso; have h1 := of_decide_eq_true hb155; omega
          ·
           refine g_take rfl rfl rfl ?_
           refine s_pu (p_move rfl) rfl ?_
           refine g_take rfl rfl rfl ?_
           refine s_pu (p_move rfl) rfl ?_
           refine g_take rfl rfl rfl ?_
           refine s_pu (p_gtI rfl rfl) rfl ?_
           refine s_pu (p_pickF rfl rfl) rfl ?_
           refine WL_th ⟨rfl, _, ?_, Ext.cons rfl (ext_kd rfl rfl (ext_kd rfl rfl (ext_kd rfl rfl (ext_kd rfl rfl (ext_kd rfl rfl (ext_kd rfl rfl (ext_kd rfl rfl (ext_kd rfl rfl (ext_kd rfl rfl (ext_kd rfl rfl ext_kn))))))))))⟩
           exact decide_eq_false (by omega)
         ·
          intro b159 hb159
          refine WL_forget (Ext.cd 1 rfl (Ext.cd 8 rfl (Ext.cd 9 rfl (Ext.cd 10 rfl (Ext.cd 11 rfl (Ext.cd 12 rfl (Ext.cd 17 rfl (Ext.cd 99 rfl (Ext.cd 100 rfl (Ext.cd 101 rfl (Ext.cd 159 rfl (Ext.nil _)))))))))))) ?_
          show WL _ _ _ [] _ _ _
          refine WL_th ?_
          refine W_false (congrArg (fun b => some (Value.bool b)) hb159) ?_
          refine W_skip_th ?_
          refine W_reg ?_
          refine s_pu (p_move rfl) rfl ?_
          refine s_pu (p_assign rfl) rfl ?_
          refine WL_nil ?_
          show W _ _ _ _ _ _
          refine W_forget (Ext.cd 1 rfl (Ext.cd 8 rfl (Ext.cd 9 rfl (Ext.cd 10 rfl (Ext.cd 11 rfl (Ext.cd 12 rfl (Ext.cd 13 rfl (Ext.cd 99 rfl (Ext.cd 100 rfl (Ext.cd 101 rfl (Ext.nil _))))))))))) ?_
          refine W_reg ?_
          refine s_pu (p_addI rfl rfl ?_) rfl ?_
          ·
           (first | assumption | omega)
          refine s_pu (p_move rfl) rfl ?_
          refine WL_th ?_
          refine ⟨(xi + 1, n * 10 + dg), (Ext.cons rfl (Ext.cons rfl (Ext.cons rfl (Ext.cons rfl (Ext.cons rfl (Ext.cons rfl (Ext.cons (by show some (Value.int .u64 A) = _; rw [← hA]) (Ext.cons rfl (Ext.cons rfl (Ext.cons (by show some (Value.int .i64 ((xi : Int) + 1)) = _; simp) (Ext.nil _))))))))))), ⟨by omega, by rw [Nat.pow_succ]; omega, hs⟩, by omega⟩
    ·
     refine W_exit ?_
     show W _ _ _ _ _ _
     refine W_forget (Ext.cd 9 rfl (Ext.cd 12 rfl (Ext.cd 13 rfl (Ext.nil _)))) ?_
     refine W_seq ?_
     refine W_sr ?_
     refine s_pu (p_move rfl) rfl ?_
     refine s_pu (p_move rfl) rfl ?_
     refine WL_cutb 4 169 [13] (fun b => b = false) ?_ ?_
     ·
      refine s_bool 165 rfl (fun hb165 => ?_) (fun hb165 => ?_)
      ·
       cases hb165
      ·
       refine g_skip rfl rfl rfl rfl rfl ?_
       refine g_skip rfl rfl rfl rfl rfl ?_
       refine g_skip rfl rfl rfl rfl rfl ?_
       refine s_pu (p_pickF rfl rfl) rfl ?_
       refine WL_th ⟨rfl, _, ?_, Ext.cons rfl (ext_kd rfl rfl ext_kn)⟩
       rfl
     ·
      intro b169 hb169
      refine WL_forget (Ext.cd 13 rfl (Ext.cd 169 rfl (Ext.nil _))) ?_
      show WL _ _ _ [] _ _ _
      refine WL_th ?_
      refine W_false (congrArg (fun b => some (Value.bool b)) hb169) ?_
      refine W_skip_th ?_
      refine W_sr ?_
      refine s_pu (p_move rfl) rfl ?_
      refine s_pu (p_assign rfl) rfl ?_
      refine s_pu (p_assign rfl) rfl ?_
      refine WL_th ?_
      refine W_forget (Ext.cd 6 rfl (Ext.cd 7 rfl (Ext.nil _))) ?_
      refine W_ret ?_
      refine ret_tmp2 (fn := Tryz.f110) rfl rfl rfl ?_
      exact ⟨⟨_, rfl, Nat.lt_of_lt_of_le hn (Nat.pow_le_pow_right (by decide) (by omega))⟩, hs.keep0⟩
theorem c_ParseUint (s : ByteArray) (h1 : 1 ≤ s.size) (h18 : s.size ≤ 18) (hd : ∀ i, i < s.size → dig (bt s i)) (wI : World) : Quiet Tryz.prog 100 [.string s, .int .i64 10, .int .i64 64] wI fun v => ∃ n : Nat, v = .tuple #[.int .u64 n, .nilIface] ∧ n < 10 ^ 18 := by
 have hs := St.startNone wI
 refine calls_W (args := [_, _, _]) Tryz.func100 rfl Tryz.ntmps100 rfl ?_
 refine W_sr ?_
 refine s_pu (p_assign rfl) rfl ?_
 refine s_pu (p_assign rfl) rfl ?_
 refine WL_th ?_
 refine W_sr ?_
 refine s_pu (p_move rfl) rfl ?_
 refine s_pu (p_move rfl) rfl ?_
 refine s_pu (p_move rfl) rfl ?_
 refine k_quiet (c_ParseUint110 _ h1 h18 hd _) hs (.cons rfl (.cons rfl (.cons rfl .nil))) rfl ?_
 rintro _ _ ⟨n, rfl, hn⟩ hs _
 refine s_pu (p_move rfl) rfl ?_
 refine s_pu (p_extract rfl rfl) rfl ?_
 refine s_pu (p_extract rfl rfl) rfl ?_
 refine s_pu (p_assign rfl) rfl ?_
 refine s_pu (p_assign rfl) rfl ?_
 refine WL_th ?_
 refine W_seq ?_
 refine W_sr ?_
 refine s_pu (p_move rfl) rfl ?_
 refine s_pu (p_neNN rfl) rfl ?_
 refine WL_th ?_
 refine W_false rfl ?_
 refine W_skip_th ?_
 refine W_forget (Ext.cd 8 rfl (Ext.nil _)) ?_
 refine W_sr ?_
 refine s_pu (p_move rfl) rfl ?_
 refine s_pu (p_assign rfl) rfl ?_
 refine s_pu (p_assign rfl) rfl ?_
 refine WL_th ?_
 refine W_ret ?_
 refine ret_tmp2 (fn := Tryz.f100) rfl rfl rfl ?_
 exact ⟨⟨n, rfl, hn⟩, hs.keep0⟩
theorem c_ParseInt109 (s : ByteArray) (h1 : 2 ≤ s.size) (h19 : s.size ≤ 19) (hm : bt s 0 = 45) (hd : ∀ i, i + 1 < s.size → dig (bt s (i + 1))) (wI : World) : Quiet Tryz.prog 109 [.string s, .int .i64 10, .int .i64 64] wI fun v => ∃ n : Int, v = .tuple #[.int .i64 n, .nilIface] := by
 have hs := St.startNone wI
 refine calls_W (args := [_, _, _]) Tryz.func109 rfl Tryz.ntmps109 rfl ?_
 refine W_sr ?_
 refine s_pu (p_assign rfl) rfl ?_
 refine s_pu (p_assign rfl) rfl ?_
 refine WL_th ?_
 refine W_seq ?_
 refine W_sr ?_
 refine s_pu (p_move rfl) rfl ?_
 refine s_pu (p_eqS rfl rfl) rfl ?_
 refine WL_th ?_
 refine W_if rfl (fun h13 => ?_) (fun h13 => ?_)
 ·
  exfalso
  have := toList_inj h13
  subst this
  exact absurd h1 (by decide)
 ·
  refine W_skip_th ?_
  refine W_sr ?_
  refine s_pu (p_assign rfl) rfl ?_
  refine WL_th ?_
  refine W_seq ?_
  refine W_sr ?_
  refine s_pu (p_move rfl) rfl ?_
  refine s_pu (p_indexB (i := 0) (by kernel_rfl) rfl rfl (by decide) (by show 0 < s.size; omega)) rfl ?_
  rw [show bt s (0 : Int).toNat = 45 from hm]
  refine WL_th ?_
  refine W_block ?_
  refine W_sr ?_
  refine s_pu (p_eqI rfl rfl) rfl ?_
  refine s_pu (p_assign rfl) rfl ?_
  refine WL_th ?_
  refine W_false rfl ?_
  refine W_sr ?_
  refine s_pu (p_eqI rfl rfl) rfl ?_
  refine s_pu (p_assign rfl) rfl ?_
  refine WL_th ?_
  refine W_true rfl ?_
  refine W_sr ?_
  refine s_pu (p_move rfl) rfl ?_
  refine s_pu (p_subLo (by kernel_rfl) rfl rfl ?_ ?_) rfl ?_
  ·
   decide
  ·
   (show (1 : Int) ≤ s.size; omega)
  refine s_pu (p_assign rfl) rfl ?_
  refine WL_th ?_
  refine W_forget (Ext.cd 0 rfl (Ext.cd 1 rfl (Ext.cd 2 rfl (Ext.nil _)))) ?_
  refine W_reg ?_
  refine s_pu (p_assign rfl) rfl ?_
  refine WL_nil ?_
  show W _ _ _ _ _ _
  refine W_sr ?_
  refine s_pu (p_assign rfl) rfl ?_
  refine WL_th ?_
  refine W_sr ?_
  refine s_pu (p_move rfl) rfl ?_
  refine s_pu (p_move rfl) rfl ?_
  refine s_pu (p_move rfl) rfl ?_
  have hus : (s.extract (1 : Int).toNat s.size).size = s.size - 1 := by rw [show (1 : Int).toNat = 1 from rfl, ByteArray.size_extract]; omega
  refine k_quiet (c_ParseUint110 _ (by rw [hus]; omega) (by rw [hus]; omega) (fun i hi => by rw [show (1 : Int).toNat = 1 from rfl] at hi ⊢; rw [bt_extract hi, Nat.add_comm]; exact hd i (by rw [ByteArray.size_extract] at hi; omega)) _) hs (.cons rfl (.cons rfl (.cons rfl .nil))) rfl ?_
  rintro _ _ ⟨n, rfl, hn⟩ hs _
  have e18 : 10 ^ 18 = 1000000000000000000 := by decide
  refine s_pu (p_move rfl) rfl ?_
  refine s_pu (p_extract rfl rfl) rfl ?_
  refine s_pu (p_extract rfl rfl) rfl ?_
  refine s_pu (p_assign rfl) rfl ?_
  refine s_pu (p_assign rfl) rfl ?_
  refine WL_th ?_
  refine W_seq ?_
  refine W_sr ?_
  refine s_pu (p_move rfl) rfl ?_
  refine s_pu (p_neNN rfl) rfl ?_
  refine s_pu (p_move rfl) rfl ?_
  refine WL_cutb 4 38 [2, 7, 8, 9] (fun b => b = false) ?_ ?_
  ·
   refine s_bool 34 rfl (fun hb34 => ?_) (fun hb34 => ?_)
   ·
    cases hb34
   ·
    refine g_skip rfl rfl rfl rfl rfl ?_
    refine g_skip rfl rfl rfl rfl rfl ?_
    refine g_skip rfl rfl rfl rfl rfl ?_
    refine s_pu (p_pickF rfl rfl) rfl ?_
    refine WL_th ⟨rfl, _, ?_, Ext.cons rfl (ext_kd rfl rfl (ext_kd rfl rfl (ext_kd rfl rfl (ext_kd rfl rfl ext_kn))))⟩
    rfl
  ·
   intro b38 hb38
   refine WL_forget (Ext.cd 2 rfl (Ext.cd 7 rfl (Ext.cd 8 rfl (Ext.cd 9 rfl (Ext.cd 38 rfl (Ext.nil _)))))) ?_
   show WL _ _ _ [] _ _ _
   refine WL_th ?_
   refine W_false (congrArg (fun b => some (Value.bool b)) hb38) ?_
   refine W_skip_th ?_
   refine W_seq ?_
   refine W_sr ?_
   refine s_pu (p_move rfl) rfl ?_
   refine s_pu (p_eqI rfl rfl) rfl ?_
   refine WL_th ?_
   refine W_false rfl ?_
   refine W_skip_th ?_
   refine W_sr ?_
   refine s_pu (p_move rfl) rfl ?_
   refine s_pu (p_subI rfl rfl ?_) rfl ?_
   ·
    decide
   refine s_pu (p_conv rfl) rfl ?_
   refine s_pu (p_shl rfl rfl (wrU64_ge _).1) rfl ?_
   rw [show IntKind.u64.wrap (1 * 2 ^ min (IntKind.u64.wrap (64 - 1)).toNat IntKind.u64.bits) = 9223372036854775808 from by decide]
   refine s_pu (p_assign rfl) rfl ?_
   refine WL_th ?_
   refine W_seq ?_
   refine W_sr ?_
   refine s_pu (p_move rfl) rfl ?_
   refine s_pu (p_not rfl) rfl ?_
   refine s_pu (p_move rfl) rfl ?_
   refine WL_cutb 4 52 [8, 9, 10] (fun b => b = false) ?_ ?_
   ·
    refine s_bool 48 rfl (fun hb48 => ?_) (fun hb48 => ?_)
    ·
     cases hb48
    ·
     refine g_skip rfl rfl rfl rfl rfl ?_
     refine g_skip rfl rfl rfl rfl rfl ?_
     refine g_skip rfl rfl rfl rfl rfl ?_
     refine s_pu (p_pickF rfl rfl) rfl ?_
     refine WL_th ⟨rfl, _, ?_, Ext.cons rfl (ext_kd rfl rfl (ext_kd rfl rfl (ext_kd rfl rfl ext_kn)))⟩
     rfl
   ·
    intro b52 hb52
    refine WL_forget (Ext.cd 8 rfl (Ext.cd 9 rfl (Ext.cd 10 rfl (Ext.cd 52 rfl (Ext.nil _))))) ?_
    show WL _ _ _ [] _ _ _
    refine WL_th ?_
    refine W_false (congrArg (fun b => some (Value.bool b)) hb52) ?_
    refine W_skip_th ?_
    refine W_seq ?_
    refine W_sr ?_
    refine s_pu (p_move rfl) rfl ?_
    refine s_pu (p_move rfl) rfl ?_
    refine WL_cutb 4 62 [8, 9, 10] (fun b => b = false) ?_ ?_
    ·
     refine s_bool 58 rfl (fun hb58 => ?_) (fun hb58 => ?_)
     ·
      refine g_take rfl rfl rfl ?_
      refine s_pu (p_move rfl) rfl ?_
      refine g_take rfl rfl rfl ?_
      refine s_pu (p_move rfl) rfl ?_
      refine g_take rfl rfl rfl ?_
      refine s_pu (p_gtI rfl rfl) rfl ?_
      refine s_pu (p_pickT rfl rfl) rfl ?_
      refine WL_th ⟨rfl, _, ?_, Ext.cons rfl (ext_kd rfl rfl (ext_kd rfl rfl (ext_kd rfl rfl ext_kn)))⟩
      exact decide_eq_false (by omega)
     ·
      refine g_skip rfl rfl rfl rfl rfl ?_
      refine g_skip rfl rfl rfl rfl rfl ?_
      refine g_skip rfl rfl rfl rfl rfl ?_
      refine s_pu (p_pickF rfl rfl) rfl ?_
      refine WL_th ⟨rfl, _, ?_, Ext.cons rfl (ext_kd rfl rfl (ext_kd rfl rfl (ext_kd rfl rfl ext_kn)))⟩
      cases hb58
    ·
     intro b62 hb62
     refine WL_forget (Ext.cd 8 rfl (Ext.cd 9 rfl (Ext.cd 10 rfl (Ext.cd 62 rfl (Ext.nil _))))) ?_
     show WL _ _ _ [] _ _ _
     refine WL_th ?_
     refine W_false (congrArg (fun b => some (Value.bool b)) hb62) ?_
     refine W_skip_th ?_
     refine W_sr ?_
     refine s_pu (p_move rfl) rfl ?_
     refine s_pu (p_conv rfl) rfl ?_
     refine s_pu (p_assign rfl) rfl ?_
     refine WL_th ?_
     refine W_seq ?_
     refine W_sr ?_
     refine s_pu (p_move rfl) rfl ?_
     refine WL_th ?_
     refine W_true rfl ?_
     refine W_reg ?_
     refine s_pu (p_move rfl) rfl ?_
     refine s_pu (p_negI rfl) rfl ?_
     refine s_pu (p_assign rfl) rfl ?_
     refine WL_th ?_
     refine W_sr ?_
     refine s_pu (p_move rfl) rfl ?_
     refine s_pu (p_assign rfl) rfl ?_
     refine s_pu (p_assign rfl) rfl ?_
     refine WL_th ?_
     refine W_forget (Ext.cd 6 rfl (Ext.cd 7 rfl (Ext.nil _))) ?_
     refine W_ret ?_
     refine ret_tmp2 (fn := Tryz.f109) rfl rfl rfl ?_
     exact ⟨⟨_, rfl⟩, hs.keep0⟩
theorem c_ParseInt (s : ByteArray) (h1 : 2 ≤ s.size) (h19 : s.size ≤ 19) (hm : bt s 0 = 45) (hd : ∀ i, i + 1 < s.size → dig (bt s (i + 1))) (wI : World) : Quiet Tryz.prog 99 [.string s, .int .i64 10, .int .i64 64] wI fun v => ∃ n : Int, v = .tuple #[.int .i64 n, .nilIface] := by
 have hs := St.startNone wI
 refine calls_W (args := [_, _, _]) Tryz.func99 rfl Tryz.ntmps99 rfl ?_
 refine W_sr ?_
 refine s_pu (p_assign rfl) rfl ?_
 refine s_pu (p_assign rfl) rfl ?_
 refine WL_th ?_
 refine W_sr ?_
 refine s_pu (p_move rfl) rfl ?_
 refine s_pu (p_move rfl) rfl ?_
 refine s_pu (p_move rfl) rfl ?_
 refine k_quiet (c_ParseInt109 _ h1 h19 hm hd _) hs (.cons rfl (.cons rfl (.cons rfl .nil))) rfl ?_
 rintro _ _ ⟨n, rfl⟩ hs _
 refine s_pu (p_move rfl) rfl ?_
 refine s_pu (p_extract rfl rfl) rfl ?_
 refine s_pu (p_extract rfl rfl) rfl ?_
 refine s_pu (p_assign rfl) rfl ?_
 refine s_pu (p_assign rfl) rfl ?_
 refine WL_th ?_
 refine W_seq ?_
 refine W_sr ?_
 refine s_pu (p_move rfl) rfl ?_
 refine s_pu (p_neNN rfl) rfl ?_
 refine WL_th ?_
 refine W_false rfl ?_
 refine W_skip_th ?_
 refine W_forget (Ext.cd 8 rfl (Ext.nil _)) ?_
 refine W_sr ?_
 refine s_pu (p_move rfl) rfl ?_
 refine s_pu (p_assign rfl) rfl ?_
 refine s_pu (p_assign rfl) rfl ?_
 refine WL_th ?_
 refine W_ret ?_
 refine ret_tmp2 (fn := Tryz.f99) rfl rfl rfl ?_
 exact ⟨⟨n, rfl⟩, hs.keep0⟩
end Go.Proofs.YtmalghopogngoaaGreatDoor
