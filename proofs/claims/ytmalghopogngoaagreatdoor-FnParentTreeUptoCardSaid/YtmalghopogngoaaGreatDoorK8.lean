/- A part of the proof that the parent of a node below the root is the node right above it (laws.FnParentTree), for all inputs of bulk at most 1048576 and the listed variables as the text lays them: part 8 of 16. -/
import Derived.Test.YtmalghopogngoaaGreatDoorK7
import Derived.ScopeJumps
import GoSem.PinnedTables
set_option linter.unusedVariables false
set_option linter.unusedSimpArgs false
namespace Go.Proofs.YtmalghopogngoaaGreatDoor.MW
open Go Go.RowKit
/-- No jump leaves. -/
def Sc (Q : Exit → Env → World → Prop) : Exit → Env → World → Prop
 | .goto _, _, _ => False
 | x, e, w => Q x e w
/-- By a jump to l: K. -/
def Sj (l : Nat) (K : Env → World → Prop) (Q : Exit → Env → World → Prop) : Exit → Env → World → Prop
 | .goto l', e, w => l' = l ∧ K e w
 | x, e, w => Q x e w
section
variable {P : Program} {N : Nat} {Q : Exit → Env → World → Prop} {e : Env} {w w0 : World} {ops : Array Oper} {rest : List Oper} {F : Foot} {G G' G0 : List Assn} {d : Nat} {ty : TypeId} {pos : String} {af : Array Edge}
theorem W_scope {c : Code} (h : W P N c (Sc Q) e w) : W P N (.scope c) Q e w := fun a ha =>
 wp_scope_straight (wp_mono (h a ha) fun x a' w' ⟨e', s, q⟩ => by
  cases x with
  | goto l => exact q.elim
  | normal => exact ⟨e', s, q⟩
  | exit i => exact ⟨e', s, q⟩
  | ret => exact ⟨e', s, q⟩
  | panic ch => exact ⟨e', s, q⟩
  | outgrown => exact ⟨e', s, q⟩)
theorem W_scopeJ {c r : Code} (l : Nat) (K : Env → World → Prop) (hf : findLabel c l = some r) (h1 : W P N c (Sj l K Q) e w) (h2 : ∀ e' w', K e' w' → W P N r (Sc Q) e' w') : W P N (.scope c) Q e w := fun a ha =>
 wp_scope_jumps l (fun a w => ∃ e', Sh N e' a ∧ K e' w) (fun _ _ => 0) hf
  (wp_mono (h1 a ha) fun x a' w' ⟨e', s, q⟩ => by
   cases x with
   | goto l' => exact ⟨q.1, e', s, q.2⟩
   | normal => exact ⟨e', s, q⟩
   | exit i => exact ⟨e', s, q⟩
   | ret => exact ⟨e', s, q⟩
   | panic ch => exact ⟨e', s, q⟩
   | outgrown => exact ⟨e', s, q⟩)
  (fun a w ⟨e1, s1, k1⟩ => wp_mono (h2 e1 w k1 a s1) fun x a' w' ⟨e', s, q⟩ => by
   cases x with
   | goto l' => exact q.elim
   | normal => exact ⟨e', s, q⟩
   | exit i => exact ⟨e', s, q⟩
   | ret => exact ⟨e', s, q⟩
   | panic ch => exact ⟨e', s, q⟩
   | outgrown => exact ⟨e', s, q⟩)
theorem W_label {l : Nat} (h : Q .normal e w) : W P N (.label l) Q e w := fun _ ha => wp_label ⟨e, ha, h⟩
theorem W_label_th {l : Nat} {K : Env → World → Prop} (h : K e w) : W P N (.label l) (Th K Q) e w := W_label h
theorem W_goto {l : Nat} (h : Q (.goto l) e w) : W P N (.goto l) Q e w := fun _ ha => wp_goto ⟨e, ha, h⟩
theorem sc_ret (h : Q .ret e w) : Sc Q .ret e w := h
theorem th_goto {l : Nat} {K : Env → World → Prop} (h : Q (.goto l) e w) : Th K Q (.goto l) e w := h
theorem sj_goto {l : Nat} {K : Env → World → Prop} (h : K e w) : Sj l K Q (.goto l) e w := ⟨rfl, h⟩
/-! numbers -/
theorem p_addK {T U : TypeId} {x y : Operand} {k : IntKind} {m n z : Int} (hx : evo e x = some (.int k m)) (hy : evo e y = some (.int k n)) (hz : k.wrap (m + n) = z) : Pu P N e (.binOp .add T x y U) (.int k z) := by rw [← hz]; exact p_addW hx hy
theorem p_subK {T U : TypeId} {x y : Operand} {k : IntKind} {m n z : Int} (hx : evo e x = some (.int k m)) (hy : evo e y = some (.int k n)) (hz : k.wrap (m - n) = z) : Pu P N e (.binOp .sub T x y U) (.int k z) := by rw [← hz]; exact p_subW hx hy
theorem p_mulK {T U : TypeId} {x y : Operand} {k : IntKind} {m n z : Int} (hx : evo e x = some (.int k m)) (hy : evo e y = some (.int k n)) (hz : k.wrap (m * n) = z) : Pu P N e (.binOp .mul T x y U) (.int k z) := by rw [← hz]; exact p_mulW hx hy
theorem p_convK {T U : TypeId} [hT : HasT P T] {k j : IntKind} [hU : IntT P U k] {x : Operand} {n z : Int} (hx : evo e x = some (.int j n)) (hz : k.wrap n = z) : Pu P N e (.convert T U x) (.int k z) := by rw [← hz]; exact p_conv hx
theorem p_shrK {T U : TypeId} {x y : Operand} {k j : IntKind} {m n z : Int} (hx : evo e x = some (.int k m)) (hy : evo e y = some (.int j n)) (hn : 0 ≤ n) (hz : m.fdiv (2 ^ min n.toNat k.bits) = z) : Pu P N e (.binOp .shr T x y U) (.int k z) := by rw [← hz]; exact p_shr hx hy hn
theorem p_shlK {T U : TypeId} {x y : Operand} {k j : IntKind} {m n z : Int} (hx : evo e x = some (.int k m)) (hy : evo e y = some (.int j n)) (hn : 0 ≤ n) (hz : k.wrap (m * 2 ^ min n.toNat k.bits) = z) : Pu P N e (.binOp .shl T x y U) (.int k z) := by rw [← hz]; exact p_shl hx hy hn
theorem p_quoK {T U : TypeId} {x y : Operand} {k : IntKind} {m n z : Int} (hx : evo e x = some (.int k m)) (hy : evo e y = some (.int k n)) (hn : n ≠ 0) (hz : k.wrap (m.tdiv n) = z) : Pu P N e (.binOp .quo T x y U) (.int k z) := by rw [← hz]; exact p_quo hx hy hn
theorem p_andK {T U : TypeId} {x y : Operand} {k : IntKind} {m n z : Int} (hx : evo e x = some (.int k m)) (hy : evo e y = some (.int k n)) (hz : bitsV .and k m n = z) : Pu P N e (.binOp .and T x y U) (.int k z) := by rw [← hz]; exact p_and hx hy
theorem p_negK {T : TypeId} {x : Operand} {k : IntKind} {n z : Int} (hx : evo e x = some (.int k n)) (hz : k.wrap (0 - n) = z) : Pu P N e (.unOp .neg T x) (.int k z) := by rw [← hz]; exact p_negI hx
/-- Whatever a float is, negated. -/
theorem k_negF {T : TypeId} {x : Operand} {k : FloatKind} {n : Nat} (hx : evo e x = some (.float k n)) (hN : Nat.blt d N = true) (h : ∀ r, WL P ops N rest Q (upd e d (.float k r)) w) : WL P ops N (⟨some d, .unOp .neg T x, ty, pos, af, none⟩ :: rest) Q e w := by
 obtain ⟨r, hp⟩ := p_negF (P := P) (N := N) (T := T) hx
 exact s_pu hp hN (h r)
theorem k_cmpF {op : BinOp} {T U : TypeId} {x y : Operand} {k : FloatKind} {m n : Nat} (hop : (match op with | .eql | .neq | .lss | .leq | .gtr | .geq => true | _ => false) = true) (hx : evo e x = some (.float k m)) (hy : evo e y = some (.float k n)) (hN : Nat.blt d N = true)
  (h : ∀ b, WL P ops N rest Q (upd e d (.bool b)) w) : WL P ops N (⟨some d, .binOp op T x y U, ty, pos, af, none⟩ :: rest) Q e w := by
 obtain ⟨b, hp⟩ := p_cmpF (P := P) (N := N) (T := T) (U := U) hop hx hy
 exact s_pu hp hN (h b)
theorem k_arF {op : BinOp} {T U : TypeId} {x y : Operand} {k : FloatKind} {m n : Nat} (hop : (match op with | .add | .sub | .mul | .quo => true | _ => false) = true) (hs : St w0 F w G) (hx : evo e x = some (.float k m)) (hy : evo e y = some (.float k n)) (hN : Nat.blt d N = true)
  (h : ∀ r w', St w0 F w' G → WL P ops N rest Q (upd e d (.float k r)) w') : WL P ops N (⟨some d, .binOp op T x y U, ty, pos, af, none⟩ :: rest) Q e w := by
 obtain ⟨r, w', hm, hs'⟩ := a_arF (P := P) (N := N) (T := T) (U := U) hop hs hx hy
 exact s_mk hm hN (h r w' hs')
/-- The first places of an array. -/
theorem p_arr {T n el sz : TypeId} [h : ArrT P T n el sz] {x z : Operand} {b o : Nat} {k j : IntKind} {m : Int} {y : Operand} (hx : evo e x = some (.pointer (some ⟨b, o, none⟩))) (hy : evo e y = some (.int j 0)) (hz : evo e z = some (.int k m)) (h0 : 0 ≤ m) (h1 : m ≤ n) :
  Pu P N e (.slice T x (some y) (some z) none) (.slice (some ⟨b, o, none⟩) m.toNat n) := fun a ha w d ty pos af g => by
 obtain ⟨i, hu, hi, rfl⟩ := h.out
 have h3 : (0 : Int) ≤ (m.toNat : Int) := by omega
 simp [execOp, Instr.sliceAt, Instr.sureAddr, ru hu, Instr.sliceBounds, Instr.sliceBound, asIntOf, ha.eval hx, ha.eval hy, ha.eval hz, h0, h1, h3, sizeOf, ri hi, add_at]
end
end Go.Proofs.YtmalghopogngoaaGreatDoor.MW
set_option linter.unusedVariables false
set_option linter.unusedSimpArgs false
set_option maxRecDepth 4000
namespace Go.Proofs.YtmalghopogngoaaGreatDoor
open Go Go.RowKit MW
/-- What the tables of the packages hold, as far as the walks ask it. -/
def powL : List Int := [1, 3, 6, 9, 13, 16, 19, 23, 26]
structure GP (w : World) : Prop where
 opt : w.cell? ⟨4, 0, none⟩ = some (.bool true)
 mant : w.cell? ⟨5, 0, none⟩ = some (.int .u64 52)
 expb : w.cell? ⟨5, 1, none⟩ = some (.int .u64 11)
 bias : w.cell? ⟨5, 2, none⟩ = some (.int .i64 (-1023))
 pow : ∃ b o cap, w.cell? ⟨8, 0, none⟩ = some (.slice (some ⟨b, o, none⟩) 9 cap) ∧ ∀ (i : Nat) (n : Int), powL[i]? = some n → w.cell? ⟨b, o + i * 1, none⟩ = some (.int .i64 n)
 p10 : ∃ b o cap, w.cell? ⟨9, 0, none⟩ = some (.slice (some ⟨b, o, none⟩) 23 cap) ∧ ∀ i, i < 23 → ∃ n, w.cell? ⟨b, o + i * 1, none⟩ = some (.float .f64 n)
 tab : ∀ i, i < 1392 → ∃ n : Int, w.cell? ⟨10, i, none⟩ = some (.int .u64 n)
 cheat : ∃ b o cap, w.cell? ⟨13, 0, none⟩ = some (.slice (some ⟨b, o, none⟩) 61 cap) ∧ ∀ (i : Nat) (δ : Nat) (ds : List UInt8), Go.Pinned.cheatRows[i]? = some (δ, ds) → w.cell? ⟨b, o + i * 2, none⟩ = some (.int .i64 δ) ∧ w.cell? ⟨b, o + i * 2 + 1, none⟩ = some (.string ⟨ds.toArray⟩)
theorem GP.keep {w w' : World} (h : GP w) (hk : Sames w w') : GP w' where
 opt := cell_same hk h.opt
 mant := cell_same hk h.mant
 expb := cell_same hk h.expb
 bias := cell_same hk h.bias
 pow := let ⟨b, o, cap, h1, h2⟩ := h.pow; ⟨b, o, cap, cell_same hk h1, fun i n hi => cell_same hk (h2 i n hi)⟩
 p10 := let ⟨b, o, cap, h1, h2⟩ := h.p10; ⟨b, o, cap, cell_same hk h1, fun i hi => let ⟨n, hn⟩ := h2 i hi; ⟨n, cell_same hk hn⟩⟩
 tab := fun i hi => let ⟨n, hn⟩ := h.tab i hi; ⟨n, cell_same hk hn⟩
 cheat := let ⟨b, o, cap, h1, h2⟩ := h.cheat; ⟨b, o, cap, cell_same hk h1, fun i δ ds hi => ⟨cell_same hk (h2 i δ ds hi).1, cell_same hk (h2 i δ ds hi).2⟩⟩
def GG : Glob := ⟨GP, fun _ _ h hk => h.keep hk⟩
/-- From what is held to a call that leaves all as it was. -/
theorem quiet_of {f : FuncId} {args : List Value} {φ : Value → Prop} (h : ∀ R : World → Prop, (∀ w, R w → GP w) → MW.Spec Tryz.prog f args.toArray [hold R] fun v G => φ v ∧ G = [hold R]) (w : World) (hG : GP w) : Quiet Tryz.prog f args w φ := by
 obtain ⟨R, hRdef⟩ : ∃ R : World → Prop, R = fun w' => ∀ b, b < w.heap.size → w'.heap[b]? = w.heap[b]? := ⟨_, rfl⟩
 have hSame : ∀ w', R w' → Sames w w' := fun w' h b o hb => by
  subst hRdef
  rw [h b (Array.getElem?_eq_some_iff.1 hb).1]
  exact hb
 have hsat : Sat w [hold R] (fun b => b < w.heap.size) := by
  refine .cons (S1 := fun b => b < w.heap.size) (S2 := fun _ => False) ?_ (fun _ h => h) (.nil fun _ => id) (fun _ _ => id) (fun b => ⟨.inl, fun h => h.elim id False.elim⟩)
  intro w' h
  subst hRdef
  exact fun b hb => h b hb
 refine CallsR.mono (h R (fun w' h => hG.keep (hSame w' h)) w _ hsat) ?_
 rintro v w' ⟨G', S', ⟨hφ, rfl⟩, hk, hs', hn⟩
 refine ⟨hφ, ?_⟩
 have hRw : R w' := by
  cases hs' with | cons h1 _ _ _ _ => exact hold_now h1
 subst hRdef
 exact ⟨hk.os, hk.tape, hk.output, hk.size, fun b hb _ => hRw b hb⟩
section
variable {P : Program} {N : Nat} {Q : Exit → Env → World → Prop} {e : Env} {w : World} {ops : Array Oper} {rest : List Oper} {d : Nat} {ty : TypeId} {pos : String} {af : Array Edge}
/-- A small table in a text. -/
theorem k_tab8 {T : TypeId} {x y : Operand} {s : ByteArray} {k : IntKind} {i : Int} (hu : P.underlying T = some .string) (hx : evo e x = some (.string s)) (hy : evo e y = some (.int k i)) (h0 : 0 ≤ i) (h1 : i < 256) (hs : (s.size == 256 && s.data.toList.all fun b => Nat.ble b.toNat 8) = true) (hN : Nat.blt d N = true)
  (h : ∀ n : Nat, n ≤ 8 → WL P ops N rest Q (upd e d (.int .u8 n)) w) : WL P ops N (⟨some d, .index T x y, ty, pos, af, none⟩ :: rest) Q e w := by
 rw [Bool.and_eq_true, beq_iff_eq] at hs
 obtain ⟨hs1, hs2⟩ := hs
 have hlt : i.toNat < s.size := by omega
 refine s_pu (p_indexB hu hx hy h0 hlt) hN (h _ ?_)
 rw [List.all_eq_true] at hs2
 rw [← bt_eq hlt]
 refine Nat.le_of_ble_eq_true (hs2 _ ?_)
 have : (s[i.toNat]'hlt) = s.data.toList[i.toNat]'(by simpa using hlt) := by simp; rfl
 rw [this]
 exact List.getElem_mem _
end
theorem p_frombits {N : Nat} {e : Env} {x : Operand} {n : Int} (hx : evo e x = some (.int .u64 n)) : Pu Tryz.prog N e (.call ⟨.value (.func 132), [x].toArray, #[211]⟩) (.float .f64 n.toNat) :=
 p_ext (ef := Extern.MathFloatBits.float64frombits) Tryz.func132 (by kernel_rfl) (by kernel_rfl) (by kernel_rfl) (by kernel_rfl) (.cons hx .nil) (fun w => rfl)
theorem c_bool2u (b : Bool) (wI : World) : Quiet Tryz.prog 131 [.bool b] wI fun v => ∃ n : Int, v = .int .u64 n ∧ 0 ≤ n ∧ n ≤ 1 := by
 have hs := St.startNone wI
 refine calls_W (args := [_]) Tryz.func131 rfl Tryz.ntmps131 rfl ?_
 refine W_sr ?_
 refine s_pu (p_assign rfl) rfl ?_
 refine WL_th ?_
 refine W_seq ?_
 refine W_sr ?_
 refine s_pu (p_move rfl) rfl ?_
 refine WL_th ?_
 refine W_if rfl (fun h3 => ?_) (fun h3 => ?_)
 ·
  refine W_sr ?_
  refine s_pu (p_assign rfl) rfl ?_
  refine WL_th ?_
  refine W_ret ?_
  refine th_ret ?_
  refine ret_tmp (fn := Tryz.f131) rfl rfl ?_
  exact ⟨⟨1, rfl, by decide, by decide⟩, hs.keep0⟩
 ·
  refine W_skip_th ?_
  refine W_sr ?_
  refine s_pu (p_assign rfl) rfl ?_
  refine WL_th ?_
  refine W_ret ?_
  refine ret_tmp (fn := Tryz.f131) rfl rfl ?_
  exact ⟨⟨0, rfl, by decide, by decide⟩, hs.keep0⟩
theorem c_bool2i (b : Bool) (wI : World) : Quiet Tryz.prog 137 [.bool b] wI fun v => ∃ n : Int, v = .int .i64 n ∧ 0 ≤ n ∧ n ≤ 1 := by
 have hs := St.startNone wI
 refine calls_W (args := [_]) Tryz.func137 rfl Tryz.ntmps137 rfl ?_
 refine W_sr ?_
 refine s_pu (p_assign rfl) rfl ?_
 refine WL_th ?_
 refine W_seq ?_
 refine W_sr ?_
 refine s_pu (p_move rfl) rfl ?_
 refine WL_th ?_
 refine W_if rfl (fun h3 => ?_) (fun h3 => ?_)
 ·
  refine W_sr ?_
  refine s_pu (p_assign rfl) rfl ?_
  refine WL_th ?_
  refine W_ret ?_
  refine th_ret ?_
  refine ret_tmp (fn := Tryz.f137) rfl rfl ?_
  exact ⟨⟨1, rfl, by decide, by decide⟩, hs.keep0⟩
 ·
  refine W_skip_th ?_
  refine W_sr ?_
  refine s_pu (p_assign rfl) rfl ?_
  refine WL_th ?_
  refine W_ret ?_
  refine ret_tmp (fn := Tryz.f137) rfl rfl ?_
  exact ⟨⟨0, rfl, by decide, by decide⟩, hs.keep0⟩
theorem c_log2Pow10 (x : Int) (h1 : -60 ≤ x) (h2 : x ≤ 60) (wI : World) : Quiet Tryz.prog 143 [.int .i64 x] wI fun v => ∃ n : Int, v = .int .i64 n ∧ -200 ≤ n ∧ n ≤ 200 := by
 have hs := St.startNone wI
 refine calls_W (args := [_]) Tryz.func143 rfl Tryz.ntmps143 rfl ?_
 refine W_sr ?_
 refine s_pu (p_assign rfl) rfl ?_
 refine WL_th ?_
 refine W_sr ?_
 refine s_pu (p_move rfl) rfl ?_
 refine s_pu (p_mulK (z := x * 108853) rfl rfl (wrI64 (by omega))) rfl ?_
 refine s_pu (p_shrK (z := x * 108853 / 32768) rfl rfl (by decide) (by rw [show ((2 : Int) ^ min (15 : Int).toNat IntKind.i64.bits) = 32768 from by decide, Int.fdiv_eq_ediv_of_nonneg _ (by decide)])) rfl ?_
 refine s_pu (p_assign rfl) rfl ?_
 refine WL_th ?_
 refine W_ret ?_
 refine ret_tmp (fn := Tryz.f143) rfl rfl ?_
 exact ⟨⟨_, rfl, by omega, by omega⟩, hs.keep0⟩
theorem c_Len64 (x : Int) (wI : World) : Quiet Tryz.prog 136 [.int .u64 x] wI fun v => ∃ n : Int, v = .int .i64 n ∧ 0 ≤ n ∧ n ≤ 64 := by
 have hs := St.startNone wI
 refine calls_W (args := [_]) Tryz.func136 rfl Tryz.ntmps136 rfl ?_
 refine W_sr ?_
 refine s_pu (p_assign rfl) rfl ?_
 refine WL_th ?_
 refine W_join (fun e' w' => ∃ (x1 n1 : Int), 0 ≤ n1 ∧ n1 ≤ 32 ∧ Ext e' (upd (upd emp 0 (.int .u64 x1)) 2 (.int .i64 n1)) ∧ St wI (fun _ => False) w' []) ?_ ?_
 ·
  refine W_sr ?_
  refine s_pu (p_move rfl) rfl ?_
  refine s_pu (p_geI rfl rfl) rfl ?_
  refine WL_th ?_
  refine W_if rfl (fun h4 => ?_) (fun h4 => ?_)
  ·
   refine W_sr ?_
   refine s_pu (p_move rfl) rfl ?_
   refine s_pu (p_shr rfl rfl ?_) rfl ?_
   ·
    decide
   refine s_pu (p_assign rfl) rfl ?_
   refine WL_th ?_
   refine W_reg ?_
   refine s_pu (p_assign rfl) rfl ?_
   refine WL_th ?_
   exact ⟨_, _, by omega, by omega, Ext.cons rfl (Ext.cons rfl (Ext.nil _)), hs⟩
  ·
   refine W_skip_th ?_
   exact ⟨_, _, by omega, by omega, Ext.cons rfl (Ext.cons rfl (Ext.nil _)), hs⟩
 ·
  rintro e1 w1 ⟨x1, n1, hl1, hh1, hx, hs⟩
  refine W_forget hx ?_
  clear hx
  refine W_join (fun e' w' => ∃ (x2 n2 : Int), 0 ≤ n2 ∧ n2 ≤ 48 ∧ Ext e' (upd (upd emp 0 (.int .u64 x2)) 2 (.int .i64 n2)) ∧ St wI (fun _ => False) w' []) ?_ ?_
  ·
   refine W_sr ?_
   refine s_pu (p_move rfl) rfl ?_
   refine s_pu (p_geI rfl rfl) rfl ?_
   refine WL_th ?_
   refine W_if rfl (fun h8 => ?_) (fun h8 => ?_)
   ·
    refine W_sr ?_
    refine s_pu (p_move rfl) rfl ?_
    refine s_pu (p_shr rfl rfl ?_) rfl ?_
    ·
     decide
    refine s_pu (p_assign rfl) rfl ?_
    refine WL_th ?_
    refine W_reg ?_
    refine s_pu (p_move rfl) rfl ?_
    refine s_pu (p_addI rfl rfl ?_) rfl ?_
    ·
     omega
    refine s_pu (p_assign rfl) rfl ?_
    refine WL_th ?_
    exact ⟨_, _, by omega, by omega, Ext.cons rfl (Ext.cons rfl (Ext.nil _)), hs⟩
   ·
    refine W_skip_th ?_
    exact ⟨_, _, by omega, by omega, Ext.cons rfl (Ext.cons rfl (Ext.nil _)), hs⟩
  ·
   rintro e2 w2 ⟨x2, n2, hl2, hh2, hx, hs⟩
   refine W_forget hx ?_
   clear hx
   refine W_join (fun e' w' => ∃ (x3 n3 : Int), 0 ≤ n3 ∧ n3 ≤ 56 ∧ Ext e' (upd (upd emp 0 (.int .u64 x3)) 2 (.int .i64 n3)) ∧ St wI (fun _ => False) w' []) ?_ ?_
   ·
    refine W_sr ?_
    refine s_pu (p_move rfl) rfl ?_
    refine s_pu (p_geI rfl rfl) rfl ?_
    refine WL_th ?_
    refine W_if rfl (fun h14 => ?_) (fun h14 => ?_)
    ·
     refine W_sr ?_
     refine s_pu (p_move rfl) rfl ?_
     refine s_pu (p_shr rfl rfl ?_) rfl ?_
     ·
      decide
     refine s_pu (p_assign rfl) rfl ?_
     refine WL_th ?_
     refine W_reg ?_
     refine s_pu (p_move rfl) rfl ?_
     refine s_pu (p_addI rfl rfl ?_) rfl ?_
     ·
      omega
     refine s_pu (p_assign rfl) rfl ?_
     refine WL_th ?_
     exact ⟨_, _, by omega, by omega, Ext.cons rfl (Ext.cons rfl (Ext.nil _)), hs⟩
    ·
     refine W_skip_th ?_
     exact ⟨_, _, by omega, by omega, Ext.cons rfl (Ext.cons rfl (Ext.nil _)), hs⟩
   ·
    rintro e3 w3 ⟨x3, n3, hl3, hh3, hx, hs⟩
    refine W_forget hx ?_
    clear hx
    refine W_sr ?_
    refine s_pu (p_move rfl) rfl ?_
    refine s_pu (p_move rfl) rfl ?_
    refine s_pu (p_conv rfl) rfl ?_
    refine k_tab8 (by kernel_rfl) rfl rfl (by rw [IntKind.wrap_u8]; omega) (by rw [IntKind.wrap_u8]; omega) (by kernel_rfl) rfl ?_
    intro q hq
    refine s_pu (p_convK (z := (q : Int)) rfl (wrI64 (by omega))) rfl ?_
    refine s_pu (p_addI rfl rfl ?_) rfl ?_
    ·
     omega
    refine s_pu (p_assign rfl) rfl ?_
    refine WL_th ?_
    refine W_ret ?_
    refine ret_tmp (fn := Tryz.f136) rfl rfl ?_
    exact ⟨⟨_, rfl, by omega, by omega⟩, hs.keep0⟩
theorem c_unmin (x : Int) (wI : World) : Quiet Tryz.prog 146 [.int .u64 x] wI fun v => ∃ n : Int, v = .int .u64 n := by
 have hs := St.startNone wI
 refine calls_W (args := [_]) Tryz.func146 rfl Tryz.ntmps146 rfl ?_
 refine W_sr ?_
 refine s_pu (p_assign rfl) rfl ?_
 refine WL_th ?_
 refine W_sr ?_
 refine s_pu (p_move rfl) rfl ?_
 refine s_pu (p_shl rfl rfl ?_) rfl ?_
 ·
  decide
 refine s_pu (p_subW rfl rfl) rfl ?_
 refine s_pu (p_assign rfl) rfl ?_
 refine WL_th ?_
 refine W_ret ?_
 refine ret_tmp (fn := Tryz.f146) rfl rfl ?_
 exact ⟨⟨_, rfl⟩, hs.keep0⟩
theorem c_round (x : Int) (wI : World) : Quiet Tryz.prog 148 [.int .u64 x] wI fun v => ∃ n : Int, v = .int .u64 n := by
 have hs := St.startNone wI
 refine calls_W (args := [_]) Tryz.func148 rfl Tryz.ntmps148 rfl ?_
 refine W_sr ?_
 refine s_pu (p_assign rfl) rfl ?_
 refine WL_th ?_
 refine W_sr ?_
 refine s_pu (p_move rfl) rfl ?_
 refine s_pu (p_addW rfl rfl) rfl ?_
 refine s_pu (p_move rfl) rfl ?_
 refine s_pu (p_shr rfl rfl ?_) rfl ?_
 ·
  decide
 refine s_pu (p_and rfl rfl) rfl ?_
 refine s_pu (p_addW rfl rfl) rfl ?_
 refine s_pu (p_shr rfl rfl ?_) rfl ?_
 ·
  decide
 refine s_pu (p_assign rfl) rfl ?_
 refine WL_th ?_
 refine W_ret ?_
 refine ret_tmp (fn := Tryz.f148) rfl rfl ?_
 exact ⟨⟨_, rfl⟩, hs.keep0⟩
theorem c_Mul64 (x y : Int) (wI : World) : Quiet Tryz.prog 154 [.int .u64 x, .int .u64 y] wI fun v => ∃ n m : Int, v = .tuple #[.int .u64 n, .int .u64 m] := by
 have hs := St.startNone wI
 refine calls_W (args := [_, _]) Tryz.func154 rfl Tryz.ntmps154 rfl ?_
 refine W_sr ?_
 refine s_pu (p_assign rfl) rfl ?_
 refine s_pu (p_assign rfl) rfl ?_
 refine WL_th ?_
 refine W_sr ?_
 refine s_pu (p_move rfl) rfl ?_
 refine s_pu (p_and rfl rfl) rfl ?_
 refine s_pu (p_assign rfl) rfl ?_
 refine WL_th ?_
 refine W_forget (Ext.cd 0 rfl (Ext.cd 1 rfl (Ext.cd 6 rfl (Ext.nil _)))) ?_
 refine W_sr ?_
 refine s_pu (p_move rfl) rfl ?_
 refine s_pu (p_shr rfl rfl ?_) rfl ?_
 ·
  decide
 refine s_pu (p_assign rfl) rfl ?_
 refine WL_th ?_
 refine W_sr ?_
 refine s_pu (p_move rfl) rfl ?_
 refine s_pu (p_and rfl rfl) rfl ?_
 refine s_pu (p_assign rfl) rfl ?_
 refine WL_th ?_
 refine W_forget (Ext.cd 0 rfl (Ext.cd 1 rfl (Ext.cd 6 rfl (Ext.cd 7 rfl (Ext.cd 8 rfl (Ext.nil _)))))) ?_
 refine W_sr ?_
 refine s_pu (p_move rfl) rfl ?_
 refine s_pu (p_shr rfl rfl ?_) rfl ?_
 ·
  decide
 refine s_pu (p_assign rfl) rfl ?_
 refine WL_th ?_
 refine W_sr ?_
 refine s_pu (p_move rfl) rfl ?_
 refine s_pu (p_move rfl) rfl ?_
 refine s_pu (p_mulW rfl rfl) rfl ?_
 refine s_pu (p_assign rfl) rfl ?_
 refine WL_th ?_
 refine W_forget (Ext.cd 0 rfl (Ext.cd 1 rfl (Ext.cd 6 rfl (Ext.cd 7 rfl (Ext.cd 8 rfl (Ext.cd 9 rfl (Ext.cd 10 rfl (Ext.nil _)))))))) ?_
 refine W_sr ?_
 refine s_pu (p_move rfl) rfl ?_
 refine s_pu (p_move rfl) rfl ?_
 refine s_pu (p_mulW rfl rfl) rfl ?_
 refine s_pu (p_move rfl) rfl ?_
 refine s_pu (p_shr rfl rfl ?_) rfl ?_
 ·
  decide
 refine s_pu (p_addW rfl rfl) rfl ?_
 refine s_pu (p_assign rfl) rfl ?_
 refine WL_th ?_
 refine W_forget (Ext.cd 0 rfl (Ext.cd 1 rfl (Ext.cd 6 rfl (Ext.cd 7 rfl (Ext.cd 9 rfl (Ext.cd 11 rfl (Ext.nil _))))))) ?_
 refine W_sr ?_
 refine s_pu (p_move rfl) rfl ?_
 refine s_pu (p_and rfl rfl) rfl ?_
 refine s_pu (p_assign rfl) rfl ?_
 refine WL_th ?_
 refine W_sr ?_
 refine s_pu (p_move rfl) rfl ?_
 refine s_pu (p_shr rfl rfl ?_) rfl ?_
 ·
  decide
 refine s_pu (p_assign rfl) rfl ?_
 refine WL_th ?_
 refine W_forget (Ext.cd 0 rfl (Ext.cd 1 rfl (Ext.cd 6 rfl (Ext.cd 7 rfl (Ext.cd 9 rfl (Ext.cd 12 rfl (Ext.cd 13 rfl (Ext.nil _)))))))) ?_
 refine W_sr ?_
 refine s_pu (p_move rfl) rfl ?_
 refine s_pu (p_move rfl) rfl ?_
 refine s_pu (p_move rfl) rfl ?_
 refine s_pu (p_mulW rfl rfl) rfl ?_
 refine s_pu (p_addW rfl rfl) rfl ?_
 refine s_pu (p_assign rfl) rfl ?_
 refine WL_th ?_
 refine W_forget (Ext.cd 0 rfl (Ext.cd 1 rfl (Ext.cd 7 rfl (Ext.cd 9 rfl (Ext.cd 12 rfl (Ext.cd 13 rfl (Ext.nil _))))))) ?_
 refine W_sr ?_
 refine s_pu (p_move rfl) rfl ?_
 refine s_pu (p_move rfl) rfl ?_
 refine s_pu (p_mulW rfl rfl) rfl ?_
 refine s_pu (p_move rfl) rfl ?_
 refine s_pu (p_addW rfl rfl) rfl ?_
 refine s_pu (p_move rfl) rfl ?_
 refine s_pu (p_shr rfl rfl ?_) rfl ?_
 ·
  decide
 refine s_pu (p_addW rfl rfl) rfl ?_
 refine s_pu (p_assign rfl) rfl ?_
 refine WL_th ?_
 refine W_forget (Ext.cd 0 rfl (Ext.cd 1 rfl (Ext.cd 4 rfl (Ext.nil _)))) ?_
 refine W_sr ?_
 refine s_pu (p_move rfl) rfl ?_
 refine s_pu (p_move rfl) rfl ?_
 refine s_pu (p_mulW rfl rfl) rfl ?_
 refine s_pu (p_assign rfl) rfl ?_
 refine WL_th ?_
 refine W_forget (Ext.cd 4 rfl (Ext.cd 5 rfl (Ext.nil _))) ?_
 refine W_ret ?_
 refine ret_tmp2 (fn := Tryz.f154) rfl rfl rfl ?_
 exact ⟨⟨_, _, rfl⟩, hs.keep0⟩
theorem c_pack64 (m e : Int) (h1 : -1000 ≤ e) (h2 : e ≤ 900) (wI : World) : Quiet Tryz.prog 151 [.int .u64 m, .int .i64 e] wI fun v => ∃ n, v = .tuple #[.float .f64 n, .nilIface] := by
 have hs := St.startNone wI
 refine calls_W (args := [_, _]) Tryz.func151 rfl Tryz.ntmps151 rfl ?_
 refine W_sr ?_
 refine s_pu (p_assign rfl) rfl ?_
 refine s_pu (p_assign rfl) rfl ?_
 refine WL_th ?_
 refine W_seq ?_
 refine W_sr ?_
 refine s_pu (p_move rfl) rfl ?_
 refine s_pu (p_and rfl rfl) rfl ?_
 refine s_pu (p_eqI rfl rfl) rfl ?_
 refine WL_th ?_
 refine W_if rfl (fun h8 => ?_) (fun h8 => ?_)
 ·
  refine W_sr ?_
  refine s_pu (p_move rfl) rfl ?_
  refine s_pu (p_frombits rfl) rfl ?_
  refine s_pu (p_assign rfl) rfl ?_
  refine s_pu (p_assign rfl) rfl ?_
  refine WL_th ?_
  refine W_ret ?_
  refine th_ret ?_
  refine ret_tmp2 (fn := Tryz.f151) rfl rfl rfl ?_
  exact ⟨⟨_, rfl⟩, hs.keep0⟩
 ·
  refine W_skip_th ?_
  refine W_seq ?_
  refine W_sr ?_
  refine s_pu (p_move rfl) rfl ?_
  refine s_pu (p_geI rfl rfl) rfl ?_
  refine WL_th ?_
  refine W_if rfl (fun h12 => ?_) (fun h12 => ?_)
  ·
   exfalso
   have := of_decide_eq_true h12
   omega
  ·
   refine W_skip_th ?_
   refine W_sr ?_
   refine s_pu (p_move rfl) rfl ?_
   refine s_pu (p_andNot rfl rfl) rfl ?_
   refine s_pu (p_move rfl) rfl ?_
   refine s_pu (p_addI rfl rfl ?_) rfl ?_
   ·
    omega
   refine s_pu (p_conv rfl) rfl ?_
   refine s_pu (p_shl rfl rfl ?_) rfl ?_
   ·
    decide
   refine s_pu (p_or rfl rfl) rfl ?_
   refine s_pu (p_frombits rfl) rfl ?_
   refine s_pu (p_assign rfl) rfl ?_
   refine s_pu (p_assign rfl) rfl ?_
   refine WL_th ?_
   refine W_forget (Ext.cd 4 rfl (Ext.cd 5 rfl (Ext.nil _))) ?_
   refine W_ret ?_
   refine ret_tmp2 (fn := Tryz.f151) rfl rfl rfl ?_
   exact ⟨⟨_, rfl⟩, hs.keep0⟩
theorem c_prescale (R : World → Prop) (hR : ∀ w, R w → GP w) (cb : Nat) (z : Nat → Value) (e p lp : Int) (h1 : -60 ≤ p) (h2 : p ≤ 60) (h3 : -2000 ≤ e) (h4 : e ≤ 2000) (h5 : -200 ≤ lp) (h6 : lp ≤ 200) :
  MW.Spec Tryz.prog 144 [.pointer (some ⟨cb, 0, none⟩), .int .i64 e, .int .i64 p, .int .i64 lp].toArray [pt cb 281 3 z, hold R] fun v G => ∃ hi lo : Int, G = [pt cb 281 3 (cl [.int .u64 hi, .int .u64 lo, .int .i64 (-(e + lp + 3))]), hold R] := by
 intro wI S hsat
 have hs := St.start hsat
 refine calls_W (args := [_, _, _, _]) Tryz.func144 rfl Tryz.ntmps144 rfl ?_
 refine W_sr ?_
 refine s_pu (p_move rfl) rfl ?_
 refine s_pu (p_move rfl) rfl ?_
 refine s_pu (p_subI rfl rfl ?_) rfl ?_
 ·
  omega
 refine s_pu (p_elemA rfl rfl ?_ ?_) rfl ?_
 ·
  omega
 ·
  (show p - -348 < 696; omega)
 refine s_pu (p_field rfl) rfl ?_
 obtain ⟨n13, hn13⟩ := (hR _ (hs.now .t1)).tab ((p + 348).toNat * 2 + 0) (by omega)
 refine kc_ldv (a := ⟨10, 0 + (p - -348).toNat * 2 + 0, none⟩) (by rw [show 0 + (p - -348).toNat * 2 + 0 = (p + 348).toNat * 2 + 0 by omega]; exact hn13) rfl rfl rfl ?_
 refine s_pu (p_nilCheck rfl) rfl ?_
 refine s_pu (p_field rfl) rfl ?_
 refine k_st hs rfl rfl .head rfl rfl ?_
 intro _ hs
 refine WL_th ?_
 refine W_sr ?_
 refine s_pu (p_move rfl) rfl ?_
 refine s_pu (p_move rfl) rfl ?_
 refine s_pu (p_subI rfl rfl ?_) rfl ?_
 ·
  omega
 refine s_pu (p_elemA rfl rfl ?_ ?_) rfl ?_
 ·
  omega
 ·
  (show p - -348 < 696; omega)
 refine s_pu (p_field rfl) rfl ?_
 obtain ⟨n21, hn21⟩ := (hR _ (hs.now .t1)).tab ((p + 348).toNat * 2 + 1) (by omega)
 refine kc_ldv (a := ⟨10, 0 + (p - -348).toNat * 2 + 1, none⟩) (by rw [show 0 + (p - -348).toNat * 2 + 1 = (p + 348).toNat * 2 + 1 by omega]; exact hn21) rfl rfl rfl ?_
 refine s_pu (p_nilCheck rfl) rfl ?_
 refine s_pu (p_field rfl) rfl ?_
 refine k_st hs rfl rfl .head rfl rfl ?_
 intro _ hs
 refine WL_th ?_
 refine W_forget (Ext.cd 0 rfl (Ext.cd 1 rfl (Ext.cd 3 rfl (Ext.nil _)))) ?_
 refine W_reg ?_
 refine s_pu (p_move rfl) rfl ?_
 refine s_pu (p_move rfl) rfl ?_
 refine s_pu (p_move rfl) rfl ?_
 refine s_pu (p_addI rfl rfl ?_) rfl ?_
 ·
  omega
 refine s_pu (p_addI rfl rfl ?_) rfl ?_
 ·
  omega
 refine s_pu (p_negK (z := -(e + lp + 3)) rfl (by rw [wrI64 (by omega)]; omega)) rfl ?_
 refine s_pu (p_nilCheck rfl) rfl ?_
 refine s_pu (p_field rfl) rfl ?_
 refine k_st hs rfl rfl .head rfl rfl ?_
 intro _ hs
 refine WL_nil ?_
 refine end_none (fn := Tryz.f144) rfl ?_
 have hs := hs.imp .head (pt_to (g := cl [.int .u64 n13, .int .u64 n21, .int .i64 (-(e + lp + 3))]) (by repeat (first | exact below_zero | refine below_succ ?_ rfl)))
 exact hs.spec ⟨n13, n21, rfl⟩
theorem c_uscale (x : Int) (cb : Nat) (hi lo sc : Int) (wI : World) (hf : wI.heap[cb]? = some (.cells (mkA 3 (cl [.int .u64 hi, .int .u64 lo, .int .i64 sc])) 281 (0, 0))) : Quiet Tryz.prog 145 [.int .u64 x, .pointer (some ⟨cb, 0, none⟩)] wI fun v => ∃ n : Int, v = .int .u64 n := by
 have hs := St.startNone wI
 refine calls_W (args := [_, _]) Tryz.func145 rfl Tryz.ntmps145 rfl ?_
 refine W_sr ?_
 refine s_pu (p_assign rfl) rfl ?_
 refine WL_th ?_
 refine W_sr ?_
 refine s_pu (p_move rfl) rfl ?_
 refine s_pu (p_move rfl) rfl ?_
 refine s_pu (p_nilCheck rfl) rfl ?_
 refine s_pu (p_field rfl) rfl ?_
 refine kq_ld (hs.old hf) rfl rfl rfl ?_
 refine k_quiet (c_Mul64 _ _ _) hs (.cons rfl (.cons rfl .nil)) rfl ?_
 rintro _ _ ⟨m16, q16, rfl⟩ hs _
 refine s_pu (p_move rfl) rfl ?_
 refine s_pu (p_extract rfl rfl) rfl ?_
 refine s_pu (p_extract rfl rfl) rfl ?_
 refine s_pu (p_assign rfl) rfl ?_
 refine s_pu (p_assign rfl) rfl ?_
 refine WL_th ?_
 refine W_forget (Ext.cd 0 rfl (Ext.cd 1 rfl (Ext.cd 5 rfl (Ext.cd 6 rfl (Ext.nil _))))) ?_
 refine W_sr ?_
 refine s_pu (p_move rfl) rfl ?_
 refine s_pu (p_nilCheck rfl) rfl ?_
 refine s_pu (p_field rfl) rfl ?_
 refine kq_ld (hs.old hf) rfl rfl rfl ?_
 refine s_pu (p_and rfl rfl) rfl ?_
 obtain ⟨hq1, hq2⟩ := bAnd_i64_63 sc
 generalize bitsV .and .i64 sc 63 = qq at hq1 hq2 ⊢
 refine s_pu (p_assign rfl) rfl ?_
 refine WL_th ?_
 refine W_forget (Ext.cd 0 rfl (Ext.cd 1 rfl (Ext.cd 5 rfl (Ext.cd 6 rfl (Ext.cd 7 rfl (Ext.nil _)))))) ?_
 refine W_seq ?_
 refine W_sr ?_
 refine s_pu (p_move rfl) rfl ?_
 refine s_pu (p_move rfl) rfl ?_
 refine s_pu (p_shr rfl rfl ?_) rfl ?_
 ·
  exact hq1
 refine s_pu (p_move rfl) rfl ?_
 refine s_pu (p_shl rfl rfl ?_) rfl ?_
 ·
  exact hq1
 refine s_pu (p_move rfl) rfl ?_
 refine s_pu (p_neI rfl rfl) rfl ?_
 refine WL_th ?_
 refine W_forget (Ext.cd 0 rfl (Ext.cd 1 rfl (Ext.cd 5 rfl (Ext.cd 6 rfl (Ext.cd 7 rfl (Ext.cd 30 rfl (Ext.nil _))))))) ?_
 refine W_if rfl (fun h30 => ?_) (fun h30 => ?_)
 ·
  refine W_sr ?_
  refine s_pu (p_move rfl) rfl ?_
  refine s_pu (p_move rfl) rfl ?_
  refine s_pu (p_shr rfl rfl ?_) rfl ?_
  ·
   exact hq1
  refine s_pu (p_or rfl rfl) rfl ?_
  refine s_pu (p_assign rfl) rfl ?_
  refine WL_th ?_
  refine W_forget (Ext.cd 4 rfl (Ext.nil _)) ?_
  refine W_ret ?_
  refine th_ret ?_
  refine ret_tmp (fn := Tryz.f145) rfl rfl ?_
  exact ⟨⟨_, rfl⟩, hs.keep0⟩
 ·
  refine W_skip_th ?_
  refine W_sr ?_
  refine s_pu (p_move rfl) rfl ?_
  refine s_pu (p_move rfl) rfl ?_
  refine s_pu (p_nilCheck rfl) rfl ?_
  refine s_pu (p_field rfl) rfl ?_
  refine kq_ld (hs.old hf) rfl rfl rfl ?_
  refine k_quiet (c_Mul64 _ _ _) hs (.cons rfl (.cons rfl .nil)) rfl ?_
  rintro _ _ ⟨m41, q41, rfl⟩ hs _
  refine s_pu (p_move rfl) rfl ?_
  refine s_pu (p_extract rfl rfl) rfl ?_
  refine s_pu (p_extract rfl rfl) rfl ?_
  refine s_pu (p_assign rfl) rfl ?_
  refine s_pu (p_assign rfl) rfl ?_
  refine WL_th ?_
  refine W_forget (Ext.cd 5 rfl (Ext.cd 6 rfl (Ext.cd 7 rfl (Ext.cd 8 rfl (Ext.nil _))))) ?_
  refine W_sr ?_
  refine s_pu (p_move rfl) rfl ?_
  refine s_pu (p_move rfl) rfl ?_
  refine s_pu (p_move rfl) rfl ?_
  refine s_pu (p_ltI rfl rfl) rfl ?_
  refine k_quiet (c_bool2u _ _) hs (.cons rfl .nil) rfl ?_
  rintro _ _ ⟨b48, rfl, _, _⟩ hs _
  refine s_pu (p_subW rfl rfl) rfl ?_
  refine s_pu (p_assign rfl) rfl ?_
  refine WL_th ?_
  refine W_forget (Ext.cd 5 rfl (Ext.cd 6 rfl (Ext.cd 7 rfl (Ext.cd 8 rfl (Ext.nil _))))) ?_
  refine W_seq ?_
  refine h_start (S := fun _ => True) (ls := #[false, false, false, false, false, false, false, false, false, false]) (n := 10) (by kernel_rfl) (by kernel_rfl) ?_
  have hs := hs.drew
  refine h_pu 0 rfl (ls' := #[true, false, false, false, false, false, false, false, false, false]) (by kernel_rfl) (fun _ _ _ h => h) rfl trivial (p_move rfl) ?_
  refine h_pu 1 rfl (ls' := #[true, true, false, false, false, false, false, false, false, false]) (by kernel_rfl) (fun _ _ _ h => h) rfl trivial (p_move rfl) ?_
  refine h_pu 2 rfl (ls' := #[true, true, true, false, false, false, false, false, false, false]) (by kernel_rfl) (fun _ _ _ h => h) rfl trivial (p_shr rfl rfl ?_) ?_
  ·
   exact hq1
  refine h_pu 3 rfl (ls' := #[true, true, true, true, false, false, false, false, false, false]) (by kernel_rfl) (fun _ _ _ h => h) rfl trivial (p_move rfl) ?_
  refine h_pu 4 rfl (ls' := #[true, true, true, true, true, false, false, false, false, false]) (by kernel_rfl) (fun _ _ _ h => h) rfl trivial (p_move rfl) ?_
  refine h_pu 5 rfl (ls' := #[true, true, true, true, true, true, false, false, false, false]) (by kernel_rfl) (fun _ _ _ h => h) rfl trivial (p_subW rfl rfl) ?_
  refine h_pu 6 rfl (ls' := #[true, true, true, true, true, true, true, false, false, false]) (by kernel_rfl) (fun _ _ _ h => h) rfl trivial (p_gtI rfl rfl) ?_
  refine h_one 7 rfl (ls' := #[true, true, true, true, true, true, true, true, false, false]) (by kernel_rfl) ?_
  refine k_quiet (c_bool2u _ _) hs (.cons rfl .nil) rfl ?_
  rintro _ _ ⟨b57, rfl, _, _⟩ hs _
  refine WL_th ⟨trivial, ?_⟩
  refine h_pu 8 rfl (ls' := #[true, true, true, true, true, true, true, true, true, false]) (by kernel_rfl) (fun _ _ _ h => h) rfl trivial (p_or rfl rfl) ?_
  refine h_pu 9 rfl (ls' := #[true, true, true, true, true, true, true, true, true, true]) (by kernel_rfl) (fun _ _ _ h => h) rfl trivial (p_assign rfl) ?_
  refine h_done (by kernel_rfl) ?_
  show W _ _ _ _ _ _
  refine W_forget (Ext.cd 4 rfl (Ext.nil _)) ?_
  refine W_ret ?_
  refine ret_tmp (fn := Tryz.f145) rfl rfl ?_
  exact ⟨⟨_, rfl⟩, hs.keep0⟩
theorem c_parseFloat64s (R : World → Prop) (hR : ∀ w, R w → GP w) (d p s : Int) (h1 : -60 ≤ p) (h2 : p ≤ 60) :
  MW.Spec Tryz.prog 134 [.int .u64 d, .int .i64 p, .int .u64 s].toArray [hold R] fun v G => (∃ n, v = .tuple #[.float .f64 n, .nilIface]) ∧ G = [hold R] := by
 intro wI S hsat
 have hs := St.start hsat
 refine calls_W (args := [_, _, _]) Tryz.func134 rfl Tryz.ntmps134 rfl ?_
 refine W_sr ?_
 refine s_pu (p_assign rfl) rfl ?_
 refine s_pu (p_assign rfl) rfl ?_
 refine WL_th ?_
 refine W_sr ?_
 refine s_pu (p_move rfl) rfl ?_
 refine k_quiet (c_Len64 _ _) hs (.cons rfl .nil) rfl ?_
 rintro _ _ ⟨b8, rfl, hb1, hb2⟩ hs _
 refine s_pu (p_assign rfl) rfl ?_
 refine WL_th ?_
 refine W_forget (Ext.cd 0 rfl (Ext.cd 1 rfl (Ext.cd 2 rfl (Ext.cd 8 rfl (Ext.nil _))))) ?_
 refine W_sr ?_
 refine s_pu (p_move rfl) rfl ?_
 refine k_quiet (c_log2Pow10 p h1 h2 _) hs (.cons rfl .nil) rfl ?_
 rintro _ _ ⟨lp, rfl, hl1, hl2⟩ hs _
 refine s_pu (p_assign rfl) rfl ?_
 refine WL_th ?_
 refine W_sr ?_
 refine s_pu (p_move rfl) rfl ?_
 refine s_pu (p_subI rfl rfl ?_) rfl ?_
 ·
  omega
 refine s_pu (p_move rfl) rfl ?_
 refine s_pu (p_subI rfl rfl ?_) rfl ?_
 ·
  omega
 refine s_pu (p_min rfl rfl) rfl ?_
 rw [show min (1074 : Int) (53 - b8 - lp) = 53 - b8 - lp by omega]
 refine s_pu (p_assign rfl) rfl ?_
 refine WL_th ?_
 refine W_forget (Ext.cd 0 rfl (Ext.cd 1 rfl (Ext.cd 2 rfl (Ext.cd 8 rfl (Ext.cd 9 rfl (Ext.cd 10 rfl (Ext.nil _))))))) ?_
 refine W_sr ?_
 refine k_alloc hs rfl ?_
 intro b11 _ hs
 refine WL_th ?_
 refine W_sr ?_
 refine s_pu (p_move rfl) rfl ?_
 refine s_pu (p_move rfl) rfl ?_
 refine s_pu (p_subI rfl rfl ?_) rfl ?_
 ·
  omega
 refine s_pu (p_subI rfl rfl ?_) rfl ?_
 ·
  omega
 refine s_pu (p_move rfl) rfl ?_
 refine s_pu (p_move rfl) rfl ?_
 have hs := hs.front .t1
 have hs := hs.front .t1
 refine k_spec [pt b11 281 3 _, hold R] (c_prescale R hR b11 _ _ p lp h1 h2 (by omega) (by omega) hl1 hl2) hs (.cons rfl (.cons rfl (.cons rfl (.cons rfl .nil)))) rfl ?_
 rintro _ _ _ ⟨hi, lo, rfl⟩ hs
 refine WL_th ?_
 refine W_forget (Ext.cd 0 rfl (Ext.cd 2 rfl (Ext.cd 8 rfl (Ext.cd 10 rfl (Ext.cd 11 rfl (Ext.nil _)))))) ?_
 refine W_seq ?_
 refine W_sr ?_
 refine s_pu (p_field rfl) rfl ?_
 refine k_ld hs rfl .head rfl rfl ?_
 refine s_pu (p_geI rfl rfl) rfl ?_
 refine WL_th ?_
 refine W_if rfl (fun h32 => ?_) (fun h32 => ?_)
 ·
  exfalso
  have := of_decide_eq_true h32
  omega
 ·
  refine W_skip_th ?_
  refine W_forget (Ext.cd 0 rfl (Ext.cd 2 rfl (Ext.cd 8 rfl (Ext.cd 10 rfl (Ext.cd 11 rfl (Ext.nil _)))))) ?_
  refine W_sr ?_
  refine s_pu (p_move rfl) rfl ?_
  refine s_pu (p_move rfl) rfl ?_
  refine s_pu (p_subI rfl rfl ?_) rfl ?_
  ·
   omega
  refine s_pu (p_shl rfl rfl ?_) rfl ?_
  ·
   omega
  refine k_quiet (c_uscale _ b11 hi lo _ _ (hs.cell .head)) hs (.cons rfl (.cons rfl .nil)) rfl ?_
  rintro _ _ ⟨u40, rfl⟩ hs _
  refine s_pu (p_assign rfl) rfl ?_
  refine WL_th ?_
  refine W_forget (Ext.cd 2 rfl (Ext.cd 10 rfl (Ext.cd 12 rfl (Ext.nil _)))) ?_
  refine W_sr ?_
  refine s_pu (p_move rfl) rfl ?_
  refine k_quiet (c_unmin _ _) hs (.cons rfl .nil) rfl ?_
  rintro _ _ ⟨u42, rfl⟩ hs _
  refine s_pu (p_geI rfl rfl) rfl ?_
  refine k_quiet (c_bool2i _ _) hs (.cons rfl .nil) rfl ?_
  rintro _ _ ⟨u44, rfl, hc1, hc2⟩ hs _
  refine s_pu (p_assign rfl) rfl ?_
  refine WL_th ?_
  refine W_forget (Ext.cd 2 rfl (Ext.cd 10 rfl (Ext.cd 12 rfl (Ext.cd 13 rfl (Ext.nil _))))) ?_
  refine W_sr ?_
  refine s_pu (p_move rfl) rfl ?_
  refine s_pu (p_move rfl) rfl ?_
  refine s_pu (p_shr rfl rfl ?_) rfl ?_
  ·
   exact hc1
  refine s_pu (p_move rfl) rfl ?_
  refine s_pu (p_and rfl rfl) rfl ?_
  refine s_pu (p_or rfl rfl) rfl ?_
  generalize bitsV .or .u64 _ _ = u50
  refine s_pu (p_assign rfl) rfl ?_
  refine WL_th ?_
  refine W_forget (Ext.cd 2 rfl (Ext.cd 10 rfl (Ext.cd 12 rfl (Ext.cd 13 rfl (Ext.nil _))))) ?_
  refine W_sr ?_
  refine s_pu (p_move rfl) rfl ?_
  refine s_pu (p_move rfl) rfl ?_
  refine s_pu (p_subI rfl rfl ?_) rfl ?_
  ·
   omega
  refine s_pu (p_assign rfl) rfl ?_
  refine WL_th ?_
  refine W_forget (Ext.cd 2 rfl (Ext.cd 10 rfl (Ext.cd 12 rfl (Ext.nil _)))) ?_
  refine W_sr ?_
  refine s_pu (p_move rfl) rfl ?_
  refine s_pu (p_move rfl) rfl ?_
  refine k_quiet (c_round _ _) hs (.cons rfl .nil) rfl ?_
  rintro _ _ ⟨u56, rfl⟩ hs _
  refine s_pu (p_or rfl rfl) rfl ?_
  refine s_pu (p_move rfl) rfl ?_
  refine s_pu (p_negK (z := -(53 - b8 - lp - u44)) rfl (by rw [wrI64 (by omega)]; omega)) rfl ?_
  refine k_quiet (c_pack64 _ _ (by omega) (by omega) _) hs (.cons rfl (.cons rfl .nil)) rfl ?_
  rintro _ _ ⟨u60, rfl⟩ hs _
  refine s_pu (p_extract rfl rfl) rfl ?_
  refine s_pu (p_extract rfl rfl) rfl ?_
  refine s_pu (p_assign rfl) rfl ?_
  refine s_pu (p_assign rfl) rfl ?_
  refine WL_th ?_
  refine W_forget (Ext.cd 6 rfl (Ext.cd 7 rfl (Ext.nil _))) ?_
  refine W_ret ?_
  refine ret_tmp2 (fn := Tryz.f134) rfl rfl rfl ?_
  have hs := hs.front .t1
  have hs := St.cut (G1 := [_]) hs
  exact hs.spec ⟨⟨_, rfl⟩, rfl⟩
theorem c_parseFloat64 (d p s : Int) (h1 : -60 ≤ p) (h2 : p ≤ 60) (w : World) (hG : GP w) : Quiet Tryz.prog 134 [.int .u64 d, .int .i64 p, .int .u64 s] w fun v => ∃ n, v = .tuple #[.float .f64 n, .nilIface] :=
 quiet_of (fun R hR => c_parseFloat64s R hR d p s h1 h2) w hG
theorem c_atof64exact (m p : Int) (sg : Bool) (wI : World) (hG : GP wI) : Quiet Tryz.prog 133 [.int .u64 m, .int .i64 p, .bool sg] wI fun v => ∃ n b, v = .tuple #[.float .f64 n, .bool b] := by
 have hs := St.startNone wI
 refine calls_W (args := [_, _, _]) Tryz.func133 rfl Tryz.ntmps133 rfl ?_
 refine W_sr ?_
 refine s_pu (p_assign rfl) rfl ?_
 refine s_pu (p_assign rfl) rfl ?_
 refine WL_th ?_
 refine W_seq ?_
 refine W_sr ?_
 refine s_pu (p_move rfl) rfl ?_
 refine s_pu (p_field rfl) rfl ?_
 refine kc_ldv (hG.keep hs.keep.sames).mant rfl rfl rfl ?_
 refine s_pu (p_shr rfl rfl ?_) rfl ?_
 ·
  decide
 refine s_pu (p_neI rfl rfl) rfl ?_
 refine WL_th ?_
 refine W_if rfl (fun h12 => ?_) (fun h12 => ?_)
 ·
  refine W_ret ?_
  refine th_ret ?_
  refine ret_tmp2 (fn := Tryz.f133) rfl rfl rfl ?_
  exact ⟨⟨_, _, rfl⟩, hs.keep0⟩
 ·
  refine W_skip_th ?_
  refine W_sr ?_
  refine s_pu (p_move rfl) rfl ?_
  refine s_pu (p_convF (k := .f64) (by kernel_rfl) rfl) rfl ?_
  refine s_pu (p_assign rfl) rfl ?_
  refine WL_th ?_
  refine W_join (fun e' w' => ∃ f : Nat, Ext e' (upd (upd (upd emp 1 (.int .i64 p)) 6 (.float .f64 f)) 7 (.bool false)) ∧ St wI (fun _ => False) w' []) ?_ ?_
  ·
   refine W_sr ?_
   refine s_pu (p_move rfl) rfl ?_
   refine WL_th ?_
   refine W_if rfl (fun h15 => ?_) (fun h15 => ?_)
   ·
    refine W_reg ?_
    refine s_pu (p_move rfl) rfl ?_
    refine k_negF rfl rfl ?_
    intro f17
    refine s_pu (p_assign rfl) rfl ?_
    refine WL_th ?_
    exact ⟨_, Ext.cons rfl (Ext.cons rfl (Ext.cons rfl (Ext.nil _))), hs⟩
   ·
    refine W_skip_th ?_
    exact ⟨_, Ext.cons rfl (Ext.cons rfl (Ext.cons rfl (Ext.nil _))), hs⟩
  ·
   rintro e1 w1 ⟨f, hx, hs⟩
   refine W_forget hx ?_
   clear hx
   refine W_seq ?_
   refine W_block ?_
   refine W_sr ?_
   refine s_pu (p_move rfl) rfl ?_
   refine s_pu (p_eqI rfl rfl) rfl ?_
   refine s_pu (p_assign rfl) rfl ?_
   refine WL_th ?_
   refine W_if rfl (fun h18 => ?_) (fun h18 => ?_)
   ·
    refine W_sr ?_
    refine s_pu (p_move rfl) rfl ?_
    refine s_pu (p_assign rfl) rfl ?_
    refine s_pu (p_assign rfl) rfl ?_
    refine WL_th ?_
    refine W_ret ?_
    refine bl_ret ?_
    refine th_ret ?_
    refine ret_tmp2 (fn := Tryz.f133) rfl rfl rfl ?_
    exact ⟨⟨_, _, rfl⟩, hs.keep0⟩
   ·
    refine W_sr ?_
    refine s_pu (p_move rfl) rfl ?_
    refine s_pu (p_gtI rfl rfl) rfl ?_
    refine s_pu (p_move rfl) rfl ?_
    refine WL_cutb 3 28 [1, 6, 7] (fun b => b = true → 0 < p ∧ p ≤ 37) ?_ ?_
    ·
     refine s_bool 25 rfl (fun hb25 => ?_) (fun hb25 => ?_)
     ·
      refine g_take rfl rfl rfl ?_
      refine s_pu (p_move rfl) rfl ?_
      refine g_take rfl rfl rfl ?_
      refine s_pu (p_leI rfl rfl) rfl ?_
      refine s_pu (p_pickT rfl rfl) rfl ?_
      refine WL_th ⟨rfl, _, ?_, Ext.cons rfl (ext_kd rfl rfl (ext_kd rfl rfl (ext_kd rfl rfl ext_kn)))⟩
      exact fun h => ⟨of_decide_eq_true hb25, of_decide_eq_true h⟩
     ·
      refine g_skip rfl rfl rfl rfl rfl ?_
      refine g_skip rfl rfl rfl rfl rfl ?_
      refine s_pu (p_pickF rfl rfl) rfl ?_
      refine WL_th ⟨rfl, _, ?_, Ext.cons rfl (ext_kd rfl rfl (ext_kd rfl rfl (ext_kd rfl rfl ext_kn)))⟩
      exact fun h => by cases h
    ·
     intro b28 hb28
     refine WL_forget (Ext.cd 1 rfl (Ext.cd 6 rfl (Ext.cd 7 rfl (Ext.cd 28 rfl (Ext.nil _))))) ?_
     show WL _ _ _ (_ :: _) _ _ _
     refine s_pu (p_assign rfl) rfl ?_
     refine WL_th ?_
     refine W_if rfl (fun h22 => ?_) (fun h22 => ?_)
     ·
      obtain ⟨hp1, hp2⟩ := hb28 h22
      refine W_join (fun e' w' => ∃ (f : Nat) (q : Int), 0 < q ∧ q ≤ 22 ∧ Ext e' (upd (upd (upd emp 1 (.int .i64 q)) 6 (.float .f64 f)) 7 (.bool false)) ∧ St wI (fun _ => False) w' []) ?_ ?_
      ·
       refine W_sr ?_
       refine s_pu (p_move rfl) rfl ?_
       refine s_pu (p_gtI rfl rfl) rfl ?_
       refine WL_th ?_
       refine W_if rfl (fun h30 => ?_) (fun h30 => ?_)
       ·
        have hp22 := of_decide_eq_true h30
        refine W_sr ?_
        refine s_pu (p_move rfl) rfl ?_
        obtain ⟨pb, po, pc, hp9, hp9c⟩ := (hG.keep hs.keep.sames).p10
        refine kc_ldv hp9 rfl rfl rfl ?_
        refine s_pu (p_move rfl) rfl ?_
        refine s_pu (p_subI rfl rfl ?_) rfl ?_
        ·
         omega
        refine s_pu (p_elem rfl rfl ?_ ?_) rfl ?_
        ·
         omega
        ·
         (show p - 22 < 23; omega)
        obtain ⟨n36, hn36⟩ := hp9c (p - 22).toNat (by omega)
        refine kc_ldv hn36 rfl rfl rfl ?_
        refine k_arF rfl hs rfl rfl rfl ?_
        intro f37 _ hs
        refine s_pu (p_assign rfl) rfl ?_
        refine WL_th ?_
        refine W_forget (Ext.cd 6 rfl (Ext.cd 7 rfl (Ext.nil _))) ?_
        refine W_reg ?_
        refine s_pu (p_assign rfl) rfl ?_
        refine WL_th ?_
        exact ⟨_, _, by omega, by omega, Ext.cons rfl (Ext.cons rfl (Ext.cons rfl (Ext.nil _))), hs⟩
       ·
        have hp22 : p ≤ 22 := by have := of_decide_eq_false h30; omega
        refine W_skip_th ?_
        exact ⟨_, _, by omega, by omega, Ext.cons rfl (Ext.cons rfl (Ext.cons rfl (Ext.nil _))), hs⟩
      ·
       rintro e2 w2 ⟨f, q, hq1, hq2, hx, hs⟩
       refine W_forget hx ?_
       clear hx
       refine W_seq ?_
       refine W_sr ?_
       refine s_pu (p_move rfl) rfl ?_
       refine k_cmpF rfl rfl rfl rfl ?_
       intro c39
       refine s_pu (p_move rfl) rfl ?_
       refine WL_cutb 3 43 [1, 6, 7] (fun b => True) ?_ ?_
       ·
        refine s_bool 40 rfl (fun hb40 => ?_) (fun hb40 => ?_)
        ·
         refine g_skip rfl rfl rfl rfl rfl ?_
         refine g_skip rfl rfl rfl rfl rfl ?_
         refine s_pu (p_pickT rfl rfl) rfl ?_
         refine WL_th ⟨rfl, _, ?_, Ext.cons rfl (ext_kd rfl rfl (ext_kd rfl rfl (ext_kd rfl rfl ext_kn)))⟩
         trivial
        ·
         refine g_take rfl rfl rfl ?_
         refine s_pu (p_move rfl) rfl ?_
         refine g_take rfl rfl rfl ?_
         refine k_cmpF rfl rfl rfl rfl ?_
         intro c42
         refine s_pu (p_pickF rfl rfl) rfl ?_
         refine WL_th ⟨rfl, _, ?_, Ext.cons rfl (ext_kd rfl rfl (ext_kd rfl rfl (ext_kd rfl rfl ext_kn)))⟩
         trivial
       ·
        intro b43 hb43
        refine WL_forget (Ext.cd 1 rfl (Ext.cd 6 rfl (Ext.cd 7 rfl (Ext.cd 43 rfl (Ext.nil _))))) ?_
        show WL _ _ _ [] _ _ _
        refine WL_th ?_
        refine W_if rfl (fun h43 => ?_) (fun h43 => ?_)
        ·
         refine W_ret ?_
         refine th_ret ?_
         refine bl_ret ?_
         refine th_ret ?_
         refine ret_tmp2 (fn := Tryz.f133) rfl rfl rfl ?_
         exact ⟨⟨_, _, rfl⟩, hs.keep0⟩
        ·
         refine W_skip_th ?_
         refine W_sr ?_
         refine s_pu (p_move rfl) rfl ?_
         obtain ⟨pb, po, pc, hp9, hp9c⟩ := (hG.keep hs.keep.sames).p10
         refine kc_ldv hp9 rfl rfl rfl ?_
         refine s_pu (p_move rfl) rfl ?_
         refine s_pu (p_elem rfl rfl ?_ ?_) rfl ?_
         ·
          omega
         ·
          (show q < 23; omega)
         obtain ⟨n48, hn48⟩ := hp9c (q).toNat (by omega)
         refine kc_ldv hn48 rfl rfl rfl ?_
         refine k_arF rfl hs rfl rfl rfl ?_
         intro f49 _ hs
         refine s_pu (p_assign rfl) rfl ?_
         refine s_pu (p_assign rfl) rfl ?_
         refine WL_th ?_
         refine W_ret ?_
         refine bl_ret ?_
         refine th_ret ?_
         refine ret_tmp2 (fn := Tryz.f133) rfl rfl rfl ?_
         exact ⟨⟨_, _, rfl⟩, hs.keep0⟩
     ·
      refine W_sr ?_
      refine s_pu (p_move rfl) rfl ?_
      refine s_pu (p_ltI rfl rfl) rfl ?_
      refine s_pu (p_move rfl) rfl ?_
      refine WL_cutb 3 56 [1, 6, 7] (fun b => b = true → p < 0 ∧ -22 ≤ p) ?_ ?_
      ·
       refine s_bool 53 rfl (fun hb53 => ?_) (fun hb53 => ?_)
       ·
        refine g_take rfl rfl rfl ?_
        refine s_pu (p_move rfl) rfl ?_
        refine g_take rfl rfl rfl ?_
        refine s_pu (p_geI rfl rfl) rfl ?_
        refine s_pu (p_pickT rfl rfl) rfl ?_
        refine WL_th ⟨rfl, _, ?_, Ext.cons rfl (ext_kd rfl rfl (ext_kd rfl rfl (ext_kd rfl rfl ext_kn)))⟩
        exact fun h => ⟨of_decide_eq_true hb53, of_decide_eq_true h⟩
       ·
        refine g_skip rfl rfl rfl rfl rfl ?_
        refine g_skip rfl rfl rfl rfl rfl ?_
        refine s_pu (p_pickF rfl rfl) rfl ?_
        refine WL_th ⟨rfl, _, ?_, Ext.cons rfl (ext_kd rfl rfl (ext_kd rfl rfl (ext_kd rfl rfl ext_kn)))⟩
        exact fun h => by cases h
      ·
       intro b56 hb56
       refine WL_forget (Ext.cd 1 rfl (Ext.cd 6 rfl (Ext.cd 7 rfl (Ext.cd 56 rfl (Ext.nil _))))) ?_
       show WL _ _ _ (_ :: _) _ _ _
       refine s_pu (p_assign rfl) rfl ?_
       refine WL_th ?_
       refine W_if rfl (fun h50 => ?_) (fun h50 => ?_)
       ·
        obtain ⟨hp1, hp2⟩ := hb56 h50
        refine W_sr ?_
        refine s_pu (p_move rfl) rfl ?_
        obtain ⟨pb, po, pc, hp9, hp9c⟩ := (hG.keep hs.keep.sames).p10
        refine kc_ldv hp9 rfl rfl rfl ?_
        refine s_pu (p_move rfl) rfl ?_
        refine s_pu (p_negK (z := -p) rfl (by rw [wrI64 (by omega)]; omega)) rfl ?_
        refine s_pu (p_elem rfl rfl ?_ ?_) rfl ?_
        ·
         omega
        ·
         (show -p < 23; omega)
        obtain ⟨n62, hn62⟩ := hp9c (-p).toNat (by omega)
        refine kc_ldv hn62 rfl rfl rfl ?_
        refine k_arF rfl hs rfl rfl rfl ?_
        intro f63 _ hs
        refine s_pu (p_assign rfl) rfl ?_
        refine s_pu (p_assign rfl) rfl ?_
        refine WL_th ?_
        refine W_ret ?_
        refine bl_ret ?_
        refine th_ret ?_
        refine ret_tmp2 (fn := Tryz.f133) rfl rfl rfl ?_
        exact ⟨⟨_, _, rfl⟩, hs.keep0⟩
       ·
        refine W_skip ?_
        show W _ _ _ _ _ _
        refine W_ret ?_
        refine ret_tmp2 (fn := Tryz.f133) rfl rfl rfl ?_
        exact ⟨⟨_, _, rfl⟩, hs.keep0⟩
end Go.Proofs.YtmalghopogngoaaGreatDoor
set_option linter.unusedVariables false
set_option linter.unusedSimpArgs false
set_option maxRecDepth 4000
namespace Go.Proofs.YtmalghopogngoaaGreatDoor
open Go Go.RowKit MW
theorem MW.ret_tmp3 {P : Program} {N : Nat} {e : Env} {w : World} {fn : Func} {R : Value → World → Prop} {r s t : Nat} {u v x : Value} (hr : fn.results = #[.tmp r, .tmp s, .tmp t]) (hu : e r = some u) (hv : e s = some v) (hx : e t = some x) (h : R (.tuple #[u, v, x]) w) : Qf P N fn R .ret e w :=
 ⟨.tuple #[u, v, x], fun a ha => by
  have h1 := ha.get _ _ hu
  have h2 := ha.get _ _ hv
  have h3 := ha.get _ _ hx
  rw [Array.getD_eq_getD_getElem?] at h1 h2 h3
  simp [results, hr, h1, h2, h3], h⟩
theorem MW.ret_tmp7 {P : Program} {N : Nat} {e : Env} {w : World} {fn : Func} {R : Value → World → Prop} {r1 r2 r3 r4 r5 r6 r7 : Nat} {v1 v2 v3 v4 v5 v6 v7 : Value} (hr : fn.results = #[.tmp r1, .tmp r2, .tmp r3, .tmp r4, .tmp r5, .tmp r6, .tmp r7])
  (h1 : e r1 = some v1) (h2 : e r2 = some v2) (h3 : e r3 = some v3) (h4 : e r4 = some v4) (h5 : e r5 = some v5) (h6 : e r6 = some v6) (h7 : e r7 = some v7) (h : R (.tuple #[v1, v2, v3, v4, v5, v6, v7]) w) : Qf P N fn R .ret e w :=
 ⟨.tuple #[v1, v2, v3, v4, v5, v6, v7], fun a ha => by
  have g1 := ha.get _ _ h1
  have g2 := ha.get _ _ h2
  have g3 := ha.get _ _ h3
  have g4 := ha.get _ _ h4
  have g5 := ha.get _ _ h5
  have g6 := ha.get _ _ h6
  have g7 := ha.get _ _ h7
  rw [Array.getD_eq_getD_getElem?] at g1 g2 g3 g4 g5 g6 g7
  simp [results, hr, g1, g2, g3, g4, g5, g6, g7], h⟩
/-- Digits, a point and digits: o signs ahead, p digits ahead of the point. -/
structure FT (s : ByteArray) (o p : Nat) : Prop where
 ho : o ≤ 1
 hsg : o = 1 → bt s 0 = 45
 hp : 1 ≤ p
 hlt : o + p + 1 ≤ s.size
 hmax : s.size ≤ 30
 hdot : bt s (o + p) = 46
 hdig : ∀ i, o ≤ i → i < s.size → i ≠ o + p → dig (bt s i)
theorem lower_ne {n : Nat} (h : n = 46 ∨ dig n) : (bitsV .or .u8 (n : Int) 32 == 120) = false := by
 have h' : n = 46 ∨ n = 48 ∨ n = 49 ∨ n = 50 ∨ n = 51 ∨ n = 52 ∨ n = 53 ∨ n = 54 ∨ n = 55 ∨ n = 56 ∨ n = 57 := by
  unfold dig at h
  omega
 rcases h' with rfl | rfl | rfl | rfl | rfl | rfl | rfl | rfl | rfl | rfl | rfl <;> decide
theorem c_lower (n : Int) (wI : World) : Quiet Tryz.prog 113 [.int .u8 n] wI fun v => v = .int .u8 (bitsV .or .u8 n 32) := by
 have hs := St.startNone wI
 refine calls_W (args := [_]) Tryz.func113 rfl Tryz.ntmps113 rfl ?_
 refine W_sr ?_
 refine s_pu (p_assign rfl) rfl ?_
 refine WL_th ?_
 refine W_sr ?_
 refine s_pu (p_move rfl) rfl ?_
 refine s_pu (p_or rfl rfl) rfl ?_
 refine s_pu (p_assign rfl) rfl ?_
 refine WL_th ?_
 refine W_ret ?_
 refine ret_tmp (fn := Tryz.f113) rfl rfl ?_
 exact ⟨rfl, hs.keep0⟩
theorem c_commonPrefix (s p : ByteArray) (h1 : 1 ≤ s.size) (h2 : 1 ≤ p.size) (hd : dig (bt s 0)) (hp : 97 ≤ bt p 0) (wI : World) : Quiet Tryz.prog 140 [.string s, .string p] wI fun v => v = .int .i64 0 := by
 have hs := St.startNone wI
 refine calls_W (args := [_, _]) Tryz.func140 rfl Tryz.ntmps140 rfl ?_
 refine W_sr ?_
 refine s_pu (p_assign rfl) rfl ?_
 refine WL_th ?_
 refine W_sr ?_
 refine s_pu (p_move rfl) rfl ?_
 refine s_pu (p_lenS (by kernel_rfl) rfl) rfl ?_
 refine s_pu (p_move rfl) rfl ?_
 refine s_pu (p_lenS (by kernel_rfl) rfl) rfl ?_
 refine s_pu (p_min rfl rfl) rfl ?_
 refine s_pu (p_assign rfl) rfl ?_
 refine WL_th ?_
 refine W_seq ?_
 refine W_sr ?_
 refine s_pu (p_assign rfl) rfl ?_
 refine WL_th ?_
 refine W_block ?_
 refine W_loop (α := Unit) (fun x => (upd (upd (upd (upd emp 6 (.int .i64 0)) 5 (.int .i64 (min (p.size : Int) (s.size : Int)))) 1 (.string p)) 0 (.string s))) (fun x w => St wI (fun _ => False) w []) (fun x => 0) () (Ext.cons rfl (Ext.cons rfl (Ext.cons rfl (Ext.cons rfl (Ext.nil _))))) hs (fun x w hx => ?_)
 have hs := hx
 refine W_seq ?_
 refine W_sr ?_
 refine s_pu (p_move rfl) rfl ?_
 refine s_pu (p_move rfl) rfl ?_
 refine s_pu (p_ltI rfl rfl) rfl ?_
 refine WL_th ?_
 refine W_if rfl (fun h15 => ?_) (fun h15 => ?_)
 ·
  refine W_skip_th ?_
  refine W_seq ?_
  refine W_block ?_
  refine W_sr ?_
  refine s_pu (p_move rfl) rfl ?_
  refine s_pu (p_move rfl) rfl ?_
  refine s_pu (p_indexB (i := 0) (by kernel_rfl) rfl rfl (by decide) (by show 0 < s.size; omega)) rfl ?_
  rw [show bt s (0 : Int).toNat = bt s 0 from rfl]
  refine s_pu (p_assign rfl) rfl ?_
  refine WL_th ?_
  refine W_seq ?_
  refine W_sr ?_
  refine s_pu (p_move rfl) rfl ?_
  refine s_pu (p_leI rfl rfl) rfl ?_
  refine s_pu (p_move rfl) rfl ?_
  refine WL_cutb 3 26 [0, 1, 5, 6, 7] (fun b => b = false) ?_ ?_
  ·
   refine s_bool 23 rfl (fun hb23 => ?_) (fun hb23 => ?_)
   ·
    refine g_take rfl rfl rfl ?_
    refine s_pu (p_move rfl) rfl ?_
    refine g_take rfl rfl rfl ?_
    refine s_pu (p_leI rfl rfl) rfl ?_
    refine s_pu (p_pickT rfl rfl) rfl ?_
    refine WL_th ⟨rfl, _, ?_, Ext.cons rfl (ext_kd rfl rfl (ext_kd rfl rfl (ext_kd rfl rfl (ext_kd rfl rfl (ext_kd rfl rfl ext_kn)))))⟩
    exact decide_eq_false (by unfold dig at hd; have h1 := of_decide_eq_true hb23; omega)
   ·
    refine g_skip rfl rfl rfl rfl rfl ?_
    refine g_skip rfl rfl rfl rfl rfl ?_
    refine s_pu (p_pickF rfl rfl) rfl ?_
    refine WL_th ⟨rfl, _, ?_, Ext.cons rfl (ext_kd rfl rfl (ext_kd rfl rfl (ext_kd rfl rfl (ext_kd rfl rfl (ext_kd rfl rfl ext_kn)))))⟩
    rfl
  ·
   intro b26 hb26
   refine WL_forget (Ext.cd 0 rfl (Ext.cd 1 rfl (Ext.cd 5 rfl (Ext.cd 6 rfl (Ext.cd 7 rfl (Ext.cd 26 rfl (Ext.nil _))))))) ?_
   show WL _ _ _ [] _ _ _
   refine WL_th ?_
   refine W_false (congrArg (fun b => some (Value.bool b)) hb26) ?_
   refine W_skip_th ?_
   refine W_sr ?_
   refine s_pu (p_move rfl) rfl ?_
   refine s_pu (p_move rfl) rfl ?_
   refine s_pu (p_move rfl) rfl ?_
   refine s_pu (p_indexB (i := 0) (by kernel_rfl) rfl rfl (by decide) (by show 0 < p.size; omega)) rfl ?_
   rw [show bt p (0 : Int).toNat = bt p 0 from rfl]
   refine s_pu (p_neI rfl rfl) rfl ?_
   refine WL_th ?_
   refine W_if rfl (fun h33 => ?_) (fun h33 => ?_)
   ·
    refine W_sr ?_
    refine s_pu (p_move rfl) rfl ?_
    refine s_pu (p_assign rfl) rfl ?_
    refine WL_th ?_
    refine W_forget (Ext.cd 4 rfl (Ext.nil _)) ?_
    refine W_ret ?_
    refine bl_ret ?_
    refine th_ret ?_
    refine th_ret ?_
    refine bl_ret ?_
    refine th_ret ?_
    refine ret_tmp (fn := Tryz.f140) rfl rfl ?_
    exact ⟨rfl, hs.keep0⟩
   ·
    exfalso
    have h1 : (((bt s 0 : Nat) : Int) != ((bt p 0 : Nat) : Int)) = false := h33
    simp at h1
    unfold dig at hd
    omega
 ·
  exfalso
  have := of_decide_eq_false h15
  omega
theorem c_special0 (s : ByteArray) (h1 : 1 ≤ s.size) (hd : dig (bt s 0)) (wI : World) : Quiet Tryz.prog 122 [.string s] wI fun v => v = .tuple #[.float .f64 0, .int .i64 0, .bool false] := by
 have hs := St.startNone wI
 refine calls_W (args := [_]) Tryz.func122 rfl Tryz.ntmps122 rfl ?_
 refine W_sr ?_
 refine s_pu (p_assign rfl) rfl ?_
 refine s_pu (p_assign rfl) rfl ?_
 refine s_pu (p_assign rfl) rfl ?_
 refine WL_th ?_
 refine W_seq ?_
 refine W_sr ?_
 refine s_pu (p_move rfl) rfl ?_
 refine s_pu (p_lenS (by kernel_rfl) rfl) rfl ?_
 refine s_pu (p_eqI rfl rfl) rfl ?_
 refine WL_th ?_
 refine W_if rfl (fun h0 => ?_) (fun h0 => ?_)
 ·
  exfalso
  have h2 := eq_of_beq h0
  omega
 ·
  refine W_skip_th ?_
  refine W_sr ?_
  refine s_pu (p_assign rfl) rfl ?_
  refine WL_th ?_
  refine W_sr ?_
  refine s_pu (p_assign rfl) rfl ?_
  refine WL_th ?_
  refine W_seq ?_
  refine W_sr ?_
  refine s_pu (p_move rfl) rfl ?_
  refine s_pu (p_indexB (i := 0) (by kernel_rfl) rfl rfl (by decide) (by show 0 < s.size; omega)) rfl ?_
  rw [show bt s (0 : Int).toNat = bt s 0 from rfl]
  refine WL_th ?_
  refine W_block ?_
  refine W_seq ?_
  refine W_block ?_
  refine W_seq ?_
  refine W_block ?_
  refine W_seq ?_
  refine W_block ?_
  refine W_seq ?_
  refine W_seq ?_
  refine W_seq ?_
  refine W_sr ?_
  refine s_pu (p_eqI rfl rfl) rfl ?_
  refine s_pu (p_assign rfl) rfl ?_
  refine WL_th ?_
  refine W_if rfl (fun h1 => ?_) (fun h1 => ?_)
  ·
   exfalso
   have h1 := eq_of_beq h1
   unfold dig at hd
   omega
  ·
   refine W_reg ?_
   refine s_pu (p_eqI rfl rfl) rfl ?_
   refine s_pu (p_assign rfl) rfl ?_
   refine WL_th ?_
   refine W_if rfl (fun h2 => ?_) (fun h2 => ?_)
   ·
    exfalso
    have h1 := eq_of_beq h2
    unfold dig at hd
    omega
   ·
    refine W_skip_th ?_
    refine W_seq ?_
    refine W_seq ?_
    refine W_sr ?_
    refine s_pu (p_eqI rfl rfl) rfl ?_
    refine s_pu (p_assign rfl) rfl ?_
    refine WL_th ?_
    refine W_forget (Ext.cd 0 rfl (Ext.cd 5 rfl (Ext.cd 6 rfl (Ext.cd 12 rfl (Ext.cd 16 rfl (Ext.nil _)))))) ?_
    refine W_if rfl (fun h3 => ?_) (fun h3 => ?_)
    ·
     exfalso
     have h1 := eq_of_beq h3
     unfold dig at hd
     omega
    ·
     refine W_reg ?_
     refine s_pu (p_eqI rfl rfl) rfl ?_
     refine s_pu (p_assign rfl) rfl ?_
     refine WL_th ?_
     refine W_if rfl (fun h4 => ?_) (fun h4 => ?_)
     ·
      exfalso
      have h1 := eq_of_beq h4
      unfold dig at hd
      omega
     ·
      refine W_skip_th ?_
      refine W_seq ?_
      refine W_sr ?_
      refine s_pu (p_eqI rfl rfl) rfl ?_
      refine s_pu (p_assign rfl) rfl ?_
      refine WL_th ?_
      refine W_if rfl (fun h5 => ?_) (fun h5 => ?_)
      ·
       exfalso
       have h1 := eq_of_beq h5
       unfold dig at hd
       omega
      ·
       refine W_reg ?_
       refine s_pu (p_eqI rfl rfl) rfl ?_
       refine s_pu (p_assign rfl) rfl ?_
       refine WL_th ?_
       refine W_if rfl (fun h6 => ?_) (fun h6 => ?_)
       ·
        exfalso
        have h1 := eq_of_beq h6
        unfold dig at hd
        omega
       ·
        refine W_skip_th ?_
        refine W_exit ?_
        show W _ _ _ _ _ _
        refine W_sr ?_
        refine s_pu (p_assign rfl) rfl ?_
        refine s_pu (p_assign rfl) rfl ?_
        refine s_pu (p_assign rfl) rfl ?_
        refine WL_th ?_
        refine W_ret ?_
        refine ret_tmp3 (fn := Tryz.f122) rfl rfl rfl rfl ?_
        exact ⟨rfl, hs.keep0⟩
theorem c_special1 (s : ByteArray) (h1 : 2 ≤ s.size) (hm : bt s 0 = 45) (hd : dig (bt s 1)) (wI : World) : Quiet Tryz.prog 122 [.string s] wI fun v => v = .tuple #[.float .f64 0, .int .i64 0, .bool false] := by
 have hs := St.startNone wI
 refine calls_W (args := [_]) Tryz.func122 rfl Tryz.ntmps122 rfl ?_
 refine W_sr ?_
 refine s_pu (p_assign rfl) rfl ?_
 refine s_pu (p_assign rfl) rfl ?_
 refine s_pu (p_assign rfl) rfl ?_
 refine WL_th ?_
 refine W_seq ?_
 refine W_sr ?_
 refine s_pu (p_move rfl) rfl ?_
 refine s_pu (p_lenS (by kernel_rfl) rfl) rfl ?_
 refine s_pu (p_eqI rfl rfl) rfl ?_
 refine WL_th ?_
 refine W_if rfl (fun h0 => ?_) (fun h0 => ?_)
 ·
  exfalso
  have h2 := eq_of_beq h0
  omega
 ·
  refine W_skip_th ?_
  refine W_sr ?_
  refine s_pu (p_assign rfl) rfl ?_
  refine WL_th ?_
  refine W_sr ?_
  refine s_pu (p_assign rfl) rfl ?_
  refine WL_th ?_
  refine W_seq ?_
  refine W_sr ?_
  refine s_pu (p_move rfl) rfl ?_
  refine s_pu (p_indexB (i := 0) (by kernel_rfl) rfl rfl (by decide) (by show 0 < s.size; omega)) rfl ?_
  rw [show bt s (0 : Int).toNat = 45 from hm]
  refine WL_th ?_
  refine W_block ?_
  refine W_seq ?_
  refine W_block ?_
  refine W_seq ?_
  refine W_block ?_
  refine W_seq ?_
  refine W_block ?_
  refine W_seq ?_
  refine W_seq ?_
  refine W_seq ?_
  refine W_sr ?_
  refine s_pu (p_eqI rfl rfl) rfl ?_
  refine s_pu (p_assign rfl) rfl ?_
  refine WL_th ?_
  refine W_false rfl ?_
  refine W_reg ?_
  refine s_pu (p_eqI rfl rfl) rfl ?_
  refine s_pu (p_assign rfl) rfl ?_
  refine WL_th ?_
  refine W_true rfl ?_
  refine W_exit ?_
  show W _ _ _ _ _ _
  refine W_forget (Ext.cd 0 rfl (Ext.cd 5 rfl (Ext.nil _))) ?_
  refine W_seq ?_
  refine W_sr ?_
  refine s_pu (p_move rfl) rfl ?_
  refine s_pu (p_indexB (i := 0) (by kernel_rfl) rfl rfl (by decide) (by show 0 < s.size; omega)) rfl ?_
  rw [show bt s (0 : Int).toNat = 45 from hm]
  refine s_pu (p_eqI rfl rfl) rfl ?_
  refine WL_th ?_
  refine W_true rfl ?_
  refine W_reg ?_
  refine s_pu (p_assign rfl) rfl ?_
  refine WL_th ?_
  refine W_sr ?_
  refine s_pu (p_assign rfl) rfl ?_
  refine WL_th ?_
  refine W_reg ?_
  refine s_pu (p_move rfl) rfl ?_
  refine s_pu (p_subLo (by kernel_rfl) rfl rfl ?_ ?_) rfl ?_
  ·
   decide
  ·
   (show (1 : Int) ≤ s.size; omega)
  refine s_pu (p_assign rfl) rfl ?_
  refine WL_nil ?_
  show W _ _ _ _ _ _
  refine W_seq ?_
  refine W_sr ?_
  refine s_pu (p_move rfl) rfl ?_
  have hus : (s.extract (1 : Int).toNat s.size).size = s.size - 1 := by rw [show (1 : Int).toNat = 1 from rfl, ByteArray.size_extract]; omega
  refine k_quiet (c_commonPrefix _ _ (by rw [hus]; omega) (by decide) (by rw [bt_extract (by rw [hus]; omega)]; exact hd) (by decide) _) hs (.cons rfl (.cons rfl .nil)) rfl ?_
  rintro _ _ rfl hs _
  refine s_pu (p_assign rfl) rfl ?_
  refine WL_th ?_
  refine W_seq ?_
  refine W_sr ?_
  refine s_pu (p_move rfl) rfl ?_
  refine s_pu (p_ltI rfl rfl) rfl ?_
  refine s_pu (p_move rfl) rfl ?_
  refine WL_cutb 3 34 [5, 6, 7] (fun b => b = false) ?_ ?_
  ·
   refine s_bool 31 rfl (fun hb31 => ?_) (fun hb31 => ?_)
   ·
    refine g_take rfl rfl rfl ?_
    refine s_pu (p_move rfl) rfl ?_
    refine g_take rfl rfl rfl ?_
    refine s_pu (p_ltI rfl rfl) rfl ?_
    refine s_pu (p_pickT rfl rfl) rfl ?_
    refine WL_th ⟨rfl, _, ?_, Ext.cons rfl (ext_kd rfl rfl (ext_kd rfl rfl (ext_kd rfl rfl ext_kn)))⟩
    exact absurd hb31 (by decide)
   ·
    refine g_skip rfl rfl rfl rfl rfl ?_
    refine g_skip rfl rfl rfl rfl rfl ?_
    refine s_pu (p_pickF rfl rfl) rfl ?_
    refine WL_th ⟨rfl, _, ?_, Ext.cons rfl (ext_kd rfl rfl (ext_kd rfl rfl (ext_kd rfl rfl ext_kn)))⟩
    rfl
  ·
   intro b34 hb34
   refine WL_forget (Ext.cd 5 rfl (Ext.cd 6 rfl (Ext.cd 7 rfl (Ext.cd 34 rfl (Ext.nil _))))) ?_
   show WL _ _ _ [] _ _ _
   refine WL_th ?_
   refine W_false (congrArg (fun b => some (Value.bool b)) hb34) ?_
   refine W_skip_th ?_
   refine W_sr ?_
   refine s_pu (p_move rfl) rfl ?_
   refine s_pu (p_eqI rfl rfl) rfl ?_
   refine s_pu (p_move rfl) rfl ?_
   refine WL_cutb 3 40 [5, 6, 7] (fun b => b = false) ?_ ?_
   ·
    refine s_bool 37 rfl (fun hb37 => ?_) (fun hb37 => ?_)
    ·
     refine g_skip rfl rfl rfl rfl rfl ?_
     refine g_skip rfl rfl rfl rfl rfl ?_
     refine s_pu (p_pickT rfl rfl) rfl ?_
     refine WL_th ⟨rfl, _, ?_, Ext.cons rfl (ext_kd rfl rfl (ext_kd rfl rfl (ext_kd rfl rfl ext_kn)))⟩
     exact absurd hb37 (by decide)
    ·
     refine g_take rfl rfl rfl ?_
     refine s_pu (p_move rfl) rfl ?_
     refine g_take rfl rfl rfl ?_
     refine s_pu (p_eqI rfl rfl) rfl ?_
     refine s_pu (p_pickF rfl rfl) rfl ?_
     refine WL_th ⟨rfl, _, ?_, Ext.cons rfl (ext_kd rfl rfl (ext_kd rfl rfl (ext_kd rfl rfl ext_kn)))⟩
     decide
   ·
    intro b40 hb40
    refine WL_forget (Ext.cd 5 rfl (Ext.cd 6 rfl (Ext.cd 7 rfl (Ext.cd 40 rfl (Ext.nil _))))) ?_
    show WL _ _ _ [] _ _ _
    refine WL_th ?_
    refine W_false (congrArg (fun b => some (Value.bool b)) hb40) ?_
    refine W_skip_th ?_
    refine W_exit ?_
    show W _ _ _ _ _ _
    refine W_sr ?_
    refine s_pu (p_assign rfl) rfl ?_
    refine s_pu (p_assign rfl) rfl ?_
    refine s_pu (p_assign rfl) rfl ?_
    refine WL_th ?_
    refine W_ret ?_
    refine ret_tmp3 (fn := Tryz.f122) rfl rfl rfl rfl ?_
    exact ⟨rfl, hs.keep0⟩
end Go.Proofs.YtmalghopogngoaaGreatDoor
set_option linter.unusedVariables false
set_option linter.unusedSimpArgs false
set_option maxRecDepth 4000
namespace Go.Proofs.YtmalghopogngoaaGreatDoor
open Go Go.RowKit MW
theorem c_readFloat (s : ByteArray) (o p : Nat) (hF : FT s o p) (wI : World) : Quiet Tryz.prog 123 [.string s] wI fun v => ∃ (m ex : Int) (ng tr : Bool), v = .tuple #[.int .u64 m, .int .i64 ex, .bool ng, .bool tr, .bool false, .int .i64 s.size, .bool true] ∧ -60 ≤ ex ∧ ex ≤ 60 := by
 have hs := St.startNone wI
 have ho := hF.ho
 have hp1 := hF.hp
 have hsz := hF.hlt
 have hmax := hF.hmax
 have hd0 : bt s 0 = 45 ∧ o = 1 ∨ dig (bt s 0) := by
  rcases (show o = 0 ∨ o = 1 by omega) with h | h
  ·
   exact .inr (hF.hdig 0 (by omega) (by omega) (by omega))
  ·
   exact .inl ⟨hF.hsg h, h⟩
 refine calls_W (args := [_]) Tryz.func123 rfl Tryz.ntmps123 rfl ?_
 refine W_sr ?_
 refine s_pu (p_assign rfl) rfl ?_
 refine s_pu (p_assign rfl) rfl ?_
 refine s_pu (p_assign rfl) rfl ?_
 refine s_pu (p_assign rfl) rfl ?_
 refine s_pu (p_assign rfl) rfl ?_
 refine s_pu (p_assign rfl) rfl ?_
 refine s_pu (p_assign rfl) rfl ?_
 refine WL_th ?_
 refine W_scope ?_
 refine W_sr ?_
 refine s_pu (p_assign rfl) rfl ?_
 refine WL_th ?_
 refine W_seq ?_
 refine W_sr ?_
 refine s_pu (p_move rfl) rfl ?_
 refine s_pu (p_move rfl) rfl ?_
 refine s_pu (p_lenS (by kernel_rfl) rfl) rfl ?_
 refine s_pu (p_geI rfl rfl) rfl ?_
 refine WL_th ?_
 refine W_if rfl (fun h0 => ?_) (fun h0 => ?_)
 ·
  exfalso
  have := of_decide_eq_true h0
  omega
 ·
  refine W_skip_th ?_
  refine W_join (fun e' w' => ∃ ng : Bool, Ext e' (upd (upd (upd (upd (upd (upd (upd (upd (upd emp 9 (.bool false)) 8 (.bool false)) 7 (.int .i64 o)) 6 (.bool false)) 5 (.bool false)) 4 (.bool ng)) 3 (.int .i64 0)) 2 (.int .u64 0)) 0 (.string s)) ∧ St wI (fun _ => False) w' []) ?_ ?_
  ·
   refine W_sr ?_
   refine s_pu (p_move rfl) rfl ?_
   refine s_pu (p_move rfl) rfl ?_
   refine s_pu (p_indexB (i := 0) (by kernel_rfl) rfl rfl (by decide) (by show 0 < s.size; omega)) rfl ?_
   rw [show bt s (0 : Int).toNat = bt s 0 from rfl]
   refine WL_th ?_
   refine W_block ?_
   refine W_sr ?_
   refine s_pu (p_eqI rfl rfl) rfl ?_
   refine s_pu (p_assign rfl) rfl ?_
   refine WL_th ?_
   refine W_if rfl (fun h1 => ?_) (fun h1 => ?_)
   ·
    exfalso
    have h1 := eq_of_beq h1
    unfold dig at hd0
    omega
   ·
    refine W_sr ?_
    refine s_pu (p_eqI rfl rfl) rfl ?_
    refine s_pu (p_assign rfl) rfl ?_
    refine WL_th ?_
    refine W_if rfl (fun h2 => ?_) (fun h2 => ?_)
    ·
     have ho1 : o = 1 := by have h1 := eq_of_beq h2; unfold dig at hd0; omega
     refine W_sr ?_
     refine s_pu (p_move rfl) rfl ?_
     refine s_pu (p_addI rfl rfl ?_) rfl ?_
     ·
      (first | assumption | omega)
     refine s_pu (p_assign rfl) rfl ?_
     refine WL_th ?_
     refine W_forget (Ext.cd 0 rfl (Ext.cd 2 rfl (Ext.cd 3 rfl (Ext.cd 5 rfl (Ext.cd 6 rfl (Ext.cd 7 rfl (Ext.cd 8 rfl (Ext.cd 9 rfl (Ext.nil _))))))))) ?_
     refine W_reg ?_
     refine s_pu (p_assign rfl) rfl ?_
     refine WL_nil ?_
     show ∃ _, _
     subst ho1
     exact ⟨_, (Ext.cons rfl (Ext.cons rfl (Ext.cons rfl (Ext.cons rfl (Ext.cons rfl (Ext.cons rfl (Ext.cons rfl (Ext.cons rfl (Ext.cons rfl (Ext.nil _)))))))))), hs⟩
    ·
     have ho1 : o = 0 := (show o = 0 ∨ o = 1 by omega).resolve_right (fun h1 => by rw [hF.hsg h1] at h2; exact absurd h2 (by decide))
     refine W_skip ?_
     show ∃ _, _
     subst ho1
     exact ⟨_, (Ext.cons rfl (Ext.cons rfl (Ext.cons rfl (Ext.cons rfl (Ext.cons rfl (Ext.cons rfl (Ext.cons rfl (Ext.cons rfl (Ext.cons rfl (Ext.nil _)))))))))), hs⟩
  ·
   rintro e1 w1 ⟨ng, hx, hs⟩
   refine W_forget hx ?_
   clear hx
   refine W_sr ?_
   refine s_pu (p_assign rfl) rfl ?_
   refine WL_th ?_
   refine W_sr ?_
   refine s_pu (p_assign rfl) rfl ?_
   refine WL_th ?_
   refine W_sr ?_
   refine s_pu (p_assign rfl) rfl ?_
   refine WL_th ?_
   refine W_seq ?_
   refine W_sr ?_
   refine s_pu (p_move rfl) rfl ?_
   refine s_pu (p_addI rfl rfl ?_) rfl ?_
   ·
    omega
   refine s_pu (p_move rfl) rfl ?_
   refine s_pu (p_lenS (by kernel_rfl) rfl) rfl ?_
   refine s_pu (p_ltI rfl rfl) rfl ?_
   refine s_pu (p_move rfl) rfl ?_
   refine WL_cutb 5 46 [0, 2, 3, 4, 5, 6, 7, 8, 9, 10, 11, 12] (fun b => b = true → o + 2 < s.size) ?_ ?_
   ·
    refine s_bool 41 rfl (fun hb41 => ?_) (fun hb41 => ?_)
    ·
     refine g_take rfl rfl rfl ?_
     refine s_pu (p_move rfl) rfl ?_
     refine g_take rfl rfl rfl ?_
     refine s_pu (p_move rfl) rfl ?_
     refine g_take rfl rfl rfl ?_
     refine s_pu (p_indexB (by kernel_rfl) rfl rfl ?_ ?_) rfl ?_
     ·
      omega
     ·
      (first | omega | (simp; omega))
     refine g_take rfl rfl rfl ?_
     refine s_pu (p_eqI rfl rfl) rfl ?_
     refine s_pu (p_pickT rfl rfl) rfl ?_
     refine WL_th ⟨rfl, _, ?_, Ext.cons rfl (ext_kd rfl rfl (ext_kd rfl rfl (ext_kd rfl rfl (ext_kd rfl rfl (ext_kd rfl rfl (ext_kd rfl rfl (ext_kd rfl rfl (ext_kd rfl rfl (ext_kd rfl rfl (ext_kd rfl rfl (ext_kd rfl rfl (ext_kd rfl rfl ext_kn))))))))))))⟩
     exact fun _ => by have h1 := of_decide_eq_true hb41; omega
    ·
     refine g_skip rfl rfl rfl rfl rfl ?_
     refine g_skip rfl rfl rfl rfl rfl ?_
     refine g_skip rfl rfl rfl rfl rfl ?_
     refine g_skip rfl rfl rfl rfl rfl ?_
     refine s_pu (p_pickF rfl rfl) rfl ?_
     refine WL_th ⟨rfl, _, ?_, Ext.cons rfl (ext_kd rfl rfl (ext_kd rfl rfl (ext_kd rfl rfl (ext_kd rfl rfl (ext_kd rfl rfl (ext_kd rfl rfl (ext_kd rfl rfl (ext_kd rfl rfl (ext_kd rfl rfl (ext_kd rfl rfl (ext_kd rfl rfl (ext_kd rfl rfl ext_kn))))))))))))⟩
     exact fun h => by cases h
   ·
    intro b46 hb46
    refine WL_forget (Ext.cd 0 rfl (Ext.cd 2 rfl (Ext.cd 3 rfl (Ext.cd 4 rfl (Ext.cd 5 rfl (Ext.cd 6 rfl (Ext.cd 7 rfl (Ext.cd 8 rfl (Ext.cd 9 rfl (Ext.cd 10 rfl (Ext.cd 11 rfl (Ext.cd 12 rfl (Ext.cd 46 rfl (Ext.nil _)))))))))))))) ?_
    show WL _ _ _ (_ :: _) _ _ _
    refine s_pu (p_move rfl) rfl ?_
    refine WL_cutw 7 54 [0, 2, 3, 4, 5, 6, 7, 8, 9, 10, 11, 12] (fun b => b = false) (fun w => St wI (fun _ => False) w []) ?_ ?_
    ·
     refine s_bool 47 rfl (fun hb47 => ?_) (fun hb47 => ?_)
     ·
      have hsz2 := hb46 hb47
      refine g_take rfl rfl rfl ?_
      refine s_pu (p_move rfl) rfl ?_
      refine g_take rfl rfl rfl ?_
      refine s_pu (p_move rfl) rfl ?_
      refine g_take rfl rfl rfl ?_
      refine s_pu (p_addI rfl rfl ?_) rfl ?_
      ·
       omega
      refine g_take rfl rfl rfl ?_
      refine s_pu (p_indexB (by kernel_rfl) rfl rfl ?_ ?_) rfl ?_
      ·
       omega
      ·
       omega
      refine g_take rfl rfl rfl ?_
      refine k_quiet (c_lower _ _) hs (.cons rfl .nil) rfl ?_
      rintro _ _ rfl hs _
      refine g_take rfl rfl rfl ?_
      refine s_pu (p_eqI rfl rfl) rfl ?_
      refine s_pu (p_pickT rfl rfl) rfl ?_
      refine WL_th ⟨hs, _, ?_, Ext.cons rfl (ext_kd rfl rfl (ext_kd rfl rfl (ext_kd rfl rfl (ext_kd rfl rfl (ext_kd rfl rfl (ext_kd rfl rfl (ext_kd rfl rfl (ext_kd rfl rfl (ext_kd rfl rfl (ext_kd rfl rfl (ext_kd rfl rfl (ext_kd rfl rfl ext_kn))))))))))))⟩
      have e1 : ((o : Int) + 1).toNat = o + 1 := by omega
      rw [e1]
      refine lower_ne ?_
      by_cases he : o + 1 = o + p
      ·
       exact .inl (by rw [he]; exact hF.hdot)
      ·
       exact .inr (hF.hdig _ (by omega) (by omega) he)
     ·
      refine g_skip rfl rfl rfl rfl rfl ?_
      refine g_skip rfl rfl rfl rfl rfl ?_
      refine g_skip rfl rfl rfl rfl rfl ?_
      refine g_skip rfl rfl rfl rfl rfl ?_
      refine g_skip rfl rfl rfl rfl rfl ?_
      refine g_skip rfl rfl rfl rfl rfl ?_
      refine s_pu (p_pickF rfl rfl) rfl ?_
      refine WL_th ⟨hs, _, ?_, Ext.cons rfl (ext_kd rfl rfl (ext_kd rfl rfl (ext_kd rfl rfl (ext_kd rfl rfl (ext_kd rfl rfl (ext_kd rfl rfl (ext_kd rfl rfl (ext_kd rfl rfl (ext_kd rfl rfl (ext_kd rfl rfl (ext_kd rfl rfl (ext_kd rfl rfl ext_kn))))))))))))⟩
      rfl
    ·
     intro w54 b54 hs hb54
     refine WL_forget (Ext.cd 0 rfl (Ext.cd 2 rfl (Ext.cd 3 rfl (Ext.cd 4 rfl (Ext.cd 5 rfl (Ext.cd 6 rfl (Ext.cd 7 rfl (Ext.cd 8 rfl (Ext.cd 9 rfl (Ext.cd 10 rfl (Ext.cd 11 rfl (Ext.cd 12 rfl (Ext.cd 54 rfl (Ext.nil _)))))))))))))) ?_
     show WL _ _ _ [] _ _ _
     refine WL_th ?_
     refine W_false (congrArg (fun b => some (Value.bool b)) hb54) ?_
     refine W_skip_th ?_
     refine W_sr ?_
     refine s_pu (p_assign rfl) rfl ?_
     refine WL_th ?_
     refine W_sr ?_
     refine s_pu (p_assign rfl) rfl ?_
     refine WL_th ?_
     refine W_sr ?_
     refine s_pu (p_assign rfl) rfl ?_
     refine WL_th ?_
     refine W_sr ?_
     refine s_pu (p_assign rfl) rfl ?_
     refine WL_th ?_
     refine W_sr ?_
     refine s_pu (p_assign rfl) rfl ?_
     refine WL_th ?_
     refine W_seq ?_
     refine W_label_th ?_
     refine W_seq ?_
     refine W_block ?_
     refine W_loop (α := Nat × Int × Int × Int × Int × Bool × Bool × Bool) (fun x => (upd (upd (upd (upd (upd (upd (upd (upd (upd (upd (upd (upd (upd (upd (upd (upd (upd emp 17 (.int .i64 x.2.2.2.1)) 16 (.int .i64 x.2.2.1)) 15 (.int .i64 x.2.1)) 14 (.bool x.2.2.2.2.2.2.2)) 13 (.bool x.2.2.2.2.2.2.1)) 12 (.int .u8 101)) 11 (.int .i64 19)) 10 (.int .u64 10)) 9 (.bool false)) 8 (.bool false)) 7 (.int .i64 x.1)) 6 (.bool false)) 5 (.bool x.2.2.2.2.2.1)) 4 (.bool ng)) 3 (.int .i64 0)) 2 (.int .u64 x.2.2.2.2.1)) 0 (.string s))) (fun x w => o ≤ x.1 ∧ x.1 ≤ s.size ∧ (0 ≤ x.2.1 ∧ x.2.1 ≤ x.1 ∧ 0 ≤ x.2.2.1 ∧ x.2.2.1 ≤ 19 ∧ -(x.1 : Int) ≤ x.2.2.2.1 ∧ x.2.2.2.1 ≤ x.1 ∧ (x.2.2.2.2.2.2.1 = true → o + p < x.1) ∧ (o + p < x.1 → x.2.2.2.2.2.2.1 = true) ∧ (o < x.1 → x.2.2.2.2.2.2.2 = true)) ∧ St wI (fun _ => False) w []) (fun x => s.size - x.1) (o, 0, 0, 0, 0, false, false, false) (Ext.cons rfl (Ext.cons rfl (Ext.cons rfl (Ext.cons rfl (Ext.cons rfl (Ext.cons rfl (Ext.cons rfl (Ext.cons rfl (Ext.cons rfl (Ext.cons rfl (Ext.cons rfl (Ext.cons rfl (Ext.cons rfl (Ext.cons rfl (Ext.cons rfl (Ext.cons rfl (Ext.cons rfl (Ext.nil _)))))))))))))))))) ⟨Nat.le_refl _, by omega, ⟨by dsimp only; omega, by dsimp only; omega, by dsimp only; omega, by dsimp only; omega, by dsimp only; omega, by dsimp only; omega, fun h => (by cases h), fun h => (by dsimp only at h; omega), fun h => (by dsimp only at h; omega)⟩, hs⟩ (fun x w hx => ?_)
     obtain ⟨hi1, hi2, ⟨hf1, hf2, hf3, hf4, hf5, hf6, hf7, hf8, hf9⟩, hs⟩ := hx
     obtain ⟨i, nd, ndm, dp, m, tr, sd, sg⟩ := x
     simp only at hi1 hi2 hf1 hf2 hf3 hf4 hf5 hf6 hf7 hf8 hf9 hs
     refine W_forget (e' := (upd (upd (upd (upd (upd (upd (upd (upd (upd (upd (upd (upd (upd (upd (upd (upd (upd emp 17 (.int .i64 dp)) 16 (.int .i64 ndm)) 15 (.int .i64 nd)) 14 (.bool sg)) 13 (.bool sd)) 12 (.int .u8 101)) 11 (.int .i64 19)) 10 (.int .u64 10)) 9 (.bool false)) 8 (.bool false)) 7 (.int .i64 i)) 6 (.bool false)) 5 (.bool tr)) 4 (.bool ng)) 3 (.int .i64 0)) 2 (.int .u64 m)) 0 (.string s))) (Ext.cons rfl (Ext.cons rfl (Ext.cons rfl (Ext.cons rfl (Ext.cons rfl (Ext.cons rfl (Ext.cons rfl (Ext.cons rfl (Ext.cons rfl (Ext.cons rfl (Ext.cons rfl (Ext.cons rfl (Ext.cons rfl (Ext.cons rfl (Ext.cons rfl (Ext.cons rfl (Ext.cons rfl (Ext.nil _)))))))))))))))))) ?_
     refine W_seq ?_
     refine W_sr ?_
     refine s_pu (p_move rfl) rfl ?_
     refine s_pu (p_move rfl) rfl ?_
     refine s_pu (p_lenS (by kernel_rfl) rfl) rfl ?_
     refine s_pu (p_ltI rfl rfl) rfl ?_
     refine WL_th ?_
     refine W_if rfl (fun h3 => ?_) (fun h3 => ?_)
     ·
      have hlt : i < s.size := by have := of_decide_eq_true h3; omega
      have hc : bt s i = 46 ∨ dig (bt s i) := (Classical.em (i = o + p)).elim (fun he => .inl (by rw [he]; exact hF.hdot)) (fun he => .inr (hF.hdig i hi1 hlt he))
      refine W_skip_th ?_
      refine W_join (fun e' w' => ∃ (nd2 ndm2 dp2 m2 : Int) (tr2 sd2 sg2 : Bool), Ext e' (upd (upd (upd (upd (upd (upd (upd (upd (upd (upd (upd (upd (upd (upd (upd (upd (upd emp 17 (.int .i64 dp2)) 16 (.int .i64 ndm2)) 15 (.int .i64 nd2)) 14 (.bool sg2)) 13 (.bool sd2)) 12 (.int .u8 101)) 11 (.int .i64 19)) 10 (.int .u64 10)) 9 (.bool false)) 8 (.bool false)) 7 (.int .i64 i)) 6 (.bool false)) 5 (.bool tr2)) 4 (.bool ng)) 3 (.int .i64 0)) 2 (.int .u64 m2)) 0 (.string s)) ∧ St wI (fun _ => False) w' [] ∧ (0 ≤ nd2 ∧ nd2 ≤ ((i + 1 : Nat) : Int) ∧ 0 ≤ ndm2 ∧ ndm2 ≤ 19 ∧ -(((i + 1 : Nat) : Int) : Int) ≤ dp2 ∧ dp2 ≤ ((i + 1 : Nat) : Int) ∧ (sd2 = true → o + p < i + 1) ∧ (o + p < i + 1 → sd2 = true) ∧ (o < i + 1 → sg2 = true))) ?_ ?_
      ·
       refine W_block ?_
       refine W_seq ?_
       refine W_sr ?_
       refine s_pu (p_move rfl) rfl ?_
       refine s_pu (p_move rfl) rfl ?_
       refine s_pu (p_indexB (i := (i : Int)) (by kernel_rfl) rfl rfl (by omega) (by omega)) rfl ?_
       rw [show bt s ((i : Int).toNat) = bt s i by rw [Int.toNat_natCast]]
       refine s_pu (p_assign rfl) rfl ?_
       refine WL_th ?_
       refine W_block ?_
       refine W_sr ?_
       refine s_pu (p_move rfl) rfl ?_
       refine s_pu (p_eqI rfl rfl) rfl ?_
       refine s_pu (p_eqB (by kernel_rfl) rfl rfl) rfl ?_
       refine s_pu (p_assign rfl) rfl ?_
       refine WL_th ?_
       refine W_if rfl (fun h4 => ?_) (fun h4 => ?_)
       ·
        exfalso
        simp at h4
        unfold dig at hc
        omega
       ·
        refine W_sr ?_
        refine s_pu (p_move rfl) rfl ?_
        refine s_pu (p_eqI rfl rfl) rfl ?_
        refine s_pu (p_eqB (by kernel_rfl) rfl rfl) rfl ?_
        refine s_pu (p_assign rfl) rfl ?_
        refine WL_th ?_
        refine W_forget (Ext.cd 0 rfl (Ext.cd 2 rfl (Ext.cd 3 rfl (Ext.cd 4 rfl (Ext.cd 5 rfl (Ext.cd 6 rfl (Ext.cd 7 rfl (Ext.cd 8 rfl (Ext.cd 9 rfl (Ext.cd 10 rfl (Ext.cd 11 rfl (Ext.cd 12 rfl (Ext.cd 13 rfl (Ext.cd 14 rfl (Ext.cd 15 rfl (Ext.cd 16 rfl (Ext.cd 17 rfl (Ext.cd 18 rfl (Ext.cd 70 rfl (Ext.nil _)))))))))))))))))))) ?_
        refine W_if rfl (fun h5 => ?_) (fun h5 => ?_)
        ·
         have hdp : i = o + p := Classical.byContradiction (fun he => by have h2 := hF.hdig i hi1 hlt he; simp at h5; unfold dig at h2; omega)
         refine W_seq ?_
         refine W_sr ?_
         refine s_pu (p_move rfl) rfl ?_
         refine WL_th ?_
         refine W_if rfl (fun h6 => ?_) (fun h6 => ?_)
         ·
          exfalso
          have := hf7 h6
          omega
         ·
          refine W_skip_th ?_
          refine W_sr ?_
          refine s_pu (p_assign rfl) rfl ?_
          refine WL_th ?_
          refine W_sr ?_
          refine s_pu (p_move rfl) rfl ?_
          refine s_pu (p_assign rfl) rfl ?_
          refine WL_th ?_
          refine W_exit ?_
          show ∃ _, _
          refine ⟨_, _, _, _, _, _, _, (Ext.cons rfl (Ext.cons rfl (Ext.cons rfl (Ext.cons rfl (Ext.cons rfl (Ext.cons rfl (Ext.cons rfl (Ext.cons rfl (Ext.cons rfl (Ext.cons rfl (Ext.cons rfl (Ext.cons rfl (Ext.cons rfl (Ext.cons rfl (Ext.cons rfl (Ext.cons rfl (Ext.cons rfl (Ext.nil _)))))))))))))))))), hs, ?_⟩
          exact ⟨by omega, by omega, by omega, by omega, by omega, by omega, fun _ => by omega, fun _ => rfl, fun h => hf9 (by omega)⟩
        ·
         have hdg : dig (bt s i) := hc.resolve_left (fun h => by simp [h] at h5)
         have hnd : i ≠ o + p := fun h => by have h2 := hF.hdot; rw [← h] at h2; simp [h2] at h5
         refine W_sr ?_
         refine s_pu (p_move rfl) rfl ?_
         refine s_pu (p_leI rfl rfl) rfl ?_
         refine s_pu (p_move rfl) rfl ?_
         refine WL_cutb 3 82 [0, 2, 3, 4, 5, 6, 7, 8, 9, 10, 11, 12, 13, 14, 15, 16, 17, 18] (fun b => b = true) ?_ ?_
         ·
          refine s_bool 79 rfl (fun hb79 => ?_) (fun hb79 => ?_)
          ·
           refine g_take rfl rfl rfl ?_
           refine s_pu (p_move rfl) rfl ?_
           refine g_take rfl rfl rfl ?_
           refine s_pu (p_leI rfl rfl) rfl ?_
           refine s_pu (p_pickT rfl rfl) rfl ?_
           refine WL_th ⟨rfl, _, ?_, Ext.cons rfl (ext_kd rfl rfl (ext_kd rfl rfl (ext_kd rfl rfl (ext_kd rfl rfl (ext_kd rfl rfl (ext_kd rfl rfl (ext_kd rfl rfl (ext_kd rfl rfl (ext_kd rfl rfl (ext_kd rfl rfl (ext_kd rfl rfl (ext_kd rfl rfl (ext_kd rfl rfl (ext_kd rfl rfl (ext_kd rfl rfl (ext_kd rfl rfl (ext_kd rfl rfl (ext_kd rfl rfl ext_kn))))))))))))))))))⟩
           exact decide_eq_true (by unfold dig at hdg; omega)
          ·
           refine g_skip rfl rfl rfl rfl rfl ?_
           refine g_skip rfl rfl rfl rfl rfl ?_
           refine s_pu (p_pickF rfl rfl) rfl ?_
           refine WL_th ⟨rfl, _, ?_, Ext.cons rfl (ext_kd rfl rfl (ext_kd rfl rfl (ext_kd rfl rfl (ext_kd rfl rfl (ext_kd rfl rfl (ext_kd rfl rfl (ext_kd rfl rfl (ext_kd rfl rfl (ext_kd rfl rfl (ext_kd rfl rfl (ext_kd rfl rfl (ext_kd rfl rfl (ext_kd rfl rfl (ext_kd rfl rfl (ext_kd rfl rfl (ext_kd rfl rfl (ext_kd rfl rfl (ext_kd rfl rfl ext_kn))))))))))))))))))⟩
           exfalso; have h1 := of_decide_eq_false hb79; unfold dig at hdg; omega
         ·
          intro b82 hb82
          refine WL_forget (Ext.cd 0 rfl (Ext.cd 2 rfl (Ext.cd 3 rfl (Ext.cd 4 rfl (Ext.cd 5 rfl (Ext.cd 6 rfl (Ext.cd 7 rfl (Ext.cd 8 rfl (Ext.cd 9 rfl (Ext.cd 10 rfl (Ext.cd 11 rfl (Ext.cd 12 rfl (Ext.cd 13 rfl (Ext.cd 14 rfl (Ext.cd 15 rfl (Ext.cd 16 rfl (Ext.cd 17 rfl (Ext.cd 18 rfl (Ext.cd 82 rfl (Ext.nil _)))))))))))))))))))) ?_
          show WL _ _ _ (_ :: _) _ _ _
          refine s_pu (p_eqB (by kernel_rfl) rfl rfl) rfl ?_
          refine s_pu (p_assign rfl) rfl ?_
          refine WL_th ?_
          refine W_true (congrArg (fun b => some (Value.bool (true == b))) hb82) ?_
          refine W_sr ?_
          refine s_pu (p_assign rfl) rfl ?_
          refine WL_th ?_
          refine W_seq ?_
          refine W_sr ?_
          refine s_pu (p_move rfl) rfl ?_
          refine s_pu (p_eqI rfl rfl) rfl ?_
          refine s_pu (p_move rfl) rfl ?_
          refine WL_cutb 3 89 [0, 2, 3, 4, 5, 6, 7, 8, 9, 10, 11, 12, 13, 14, 15, 16, 17, 18] (fun b => True) ?_ ?_
          ·
           refine s_bool 86 rfl (fun hb86 => ?_) (fun hb86 => ?_)
           ·
            refine g_take rfl rfl rfl ?_
            refine s_pu (p_move rfl) rfl ?_
            refine g_take rfl rfl rfl ?_
            refine s_pu (p_eqI rfl rfl) rfl ?_
            refine s_pu (p_pickT rfl rfl) rfl ?_
            refine WL_th ⟨rfl, _, ?_, Ext.cons rfl (ext_kd rfl rfl (ext_kd rfl rfl (ext_kd rfl rfl (ext_kd rfl rfl (ext_kd rfl rfl (ext_kd rfl rfl (ext_kd rfl rfl (ext_kd rfl rfl (ext_kd rfl rfl (ext_kd rfl rfl (ext_kd rfl rfl (ext_kd rfl rfl (ext_kd rfl rfl (ext_kd rfl rfl (ext_kd rfl rfl (ext_kd rfl rfl (ext_kd rfl rfl (ext_kd rfl rfl ext_kn))))))))))))))))))⟩
            trivial
           ·
            refine g_skip rfl rfl rfl rfl rfl ?_
            refine g_skip rfl rfl rfl rfl rfl ?_
            refine s_pu (p_pickF rfl rfl) rfl ?_
            refine WL_th ⟨rfl, _, ?_, Ext.cons rfl (ext_kd rfl rfl (ext_kd rfl rfl (ext_kd rfl rfl (ext_kd rfl rfl (ext_kd rfl rfl (ext_kd rfl rfl (ext_kd rfl rfl (ext_kd rfl rfl (ext_kd rfl rfl (ext_kd rfl rfl (ext_kd rfl rfl (ext_kd rfl rfl (ext_kd rfl rfl (ext_kd rfl rfl (ext_kd rfl rfl (ext_kd rfl rfl (ext_kd rfl rfl (ext_kd rfl rfl ext_kn))))))))))))))))))⟩
            trivial
          ·
           intro b89 hb89
           refine WL_forget (Ext.cd 0 rfl (Ext.cd 2 rfl (Ext.cd 3 rfl (Ext.cd 4 rfl (Ext.cd 5 rfl (Ext.cd 6 rfl (Ext.cd 7 rfl (Ext.cd 8 rfl (Ext.cd 9 rfl (Ext.cd 10 rfl (Ext.cd 11 rfl (Ext.cd 12 rfl (Ext.cd 13 rfl (Ext.cd 14 rfl (Ext.cd 15 rfl (Ext.cd 16 rfl (Ext.cd 17 rfl (Ext.cd 18 rfl (Ext.cd 89 rfl (Ext.nil _)))))))))))))))))))) ?_
           show WL _ _ _ [] _ _ _
           refine WL_th ?_
           refine W_if rfl (fun h7 => ?_) (fun h7 => ?_)
           ·
            refine W_sr ?_
            refine s_pu (p_move rfl) rfl ?_
            refine s_pu (p_subI rfl rfl ?_) rfl ?_
            ·
             omega
            refine s_pu (p_assign rfl) rfl ?_
            refine WL_th ?_
            refine W_exit ?_
            show ∃ _, _
            refine ⟨_, _, _, _, _, _, _, (Ext.cons rfl (Ext.cons rfl (Ext.cons rfl (Ext.cons rfl (Ext.cons rfl (Ext.cons rfl (Ext.cons rfl (Ext.cons rfl (Ext.cons rfl (Ext.cons rfl (Ext.cons rfl (Ext.cons rfl (Ext.cons rfl (Ext.cons rfl (Ext.cons rfl (Ext.cons rfl (Ext.cons rfl (Ext.nil _)))))))))))))))))), hs, ?_⟩
            exact ⟨by omega, by omega, by omega, by omega, by omega, by omega, by first | exact fun h => by have := hf7 h; omega | (intro _; omega), by first | exact fun h => hf8 (by omega) | exact fun _ => rfl, fun _ => rfl⟩
           ·
            refine W_skip_th ?_
            refine W_sr ?_
            refine s_pu (p_move rfl) rfl ?_
            refine s_pu (p_addI rfl rfl ?_) rfl ?_
            ·
             omega
            refine s_pu (p_assign rfl) rfl ?_
            refine WL_th ?_
            refine W_seq ?_
            refine W_sr ?_
            refine s_pu (p_move rfl) rfl ?_
            refine s_pu (p_move rfl) rfl ?_
            refine s_pu (p_ltI rfl rfl) rfl ?_
            refine WL_th ?_
            refine W_if rfl (fun h8 => ?_) (fun h8 => ?_)
            ·
             have h19 := of_decide_eq_true h8
             refine W_sr ?_
             refine s_pu (p_move rfl) rfl ?_
             refine s_pu (p_move rfl) rfl ?_
             refine s_pu (p_mulW rfl rfl) rfl ?_
             refine s_pu (p_assign rfl) rfl ?_
             refine WL_th ?_
             refine W_sr ?_
             refine s_pu (p_move rfl) rfl ?_
             refine s_pu (p_move rfl) rfl ?_
             refine s_pu (p_subW rfl rfl) rfl ?_
             refine s_pu (p_conv rfl) rfl ?_
             refine s_pu (p_addW rfl rfl) rfl ?_
             generalize IntKind.u64.wrap _ = m104
             refine s_pu (p_assign rfl) rfl ?_
             refine WL_th ?_
             refine W_forget (Ext.cd 0 rfl (Ext.cd 2 rfl (Ext.cd 3 rfl (Ext.cd 4 rfl (Ext.cd 5 rfl (Ext.cd 6 rfl (Ext.cd 7 rfl (Ext.cd 8 rfl (Ext.cd 9 rfl (Ext.cd 10 rfl (Ext.cd 11 rfl (Ext.cd 12 rfl (Ext.cd 13 rfl (Ext.cd 14 rfl (Ext.cd 15 rfl (Ext.cd 16 rfl (Ext.cd 17 rfl (Ext.nil _)))))))))))))))))) ?_
             refine W_reg ?_
             refine s_pu (p_move rfl) rfl ?_
             refine s_pu (p_addI rfl rfl ?_) rfl ?_
             ·
              (first | omega | (simp only; omega))
             refine s_pu (p_assign rfl) rfl ?_
             refine WL_th ?_
             refine W_exit ?_
             show ∃ _, _
             refine ⟨_, _, _, _, _, _, _, (Ext.cons rfl (Ext.cons rfl (Ext.cons rfl (Ext.cons rfl (Ext.cons rfl (Ext.cons rfl (Ext.cons rfl (Ext.cons rfl (Ext.cons rfl (Ext.cons rfl (Ext.cons rfl (Ext.cons rfl (Ext.cons rfl (Ext.cons rfl (Ext.cons rfl (Ext.cons rfl (Ext.cons rfl (Ext.nil _)))))))))))))))))), hs, ?_⟩
             exact ⟨by omega, by omega, by omega, by omega, by omega, by omega, by first | exact fun h => by have := hf7 h; omega | (intro _; omega), by first | exact fun h => hf8 (by omega) | exact fun _ => rfl, fun _ => rfl⟩
            ·
             refine W_sr ?_
             refine s_pu (p_move rfl) rfl ?_
             refine s_pu (p_neI rfl rfl) rfl ?_
             refine WL_th ?_
             refine W_if rfl (fun h9 => ?_) (fun h9 => ?_)
             ·
              refine W_reg ?_
              refine s_pu (p_assign rfl) rfl ?_
              refine WL_th ?_
              refine W_exit ?_
              show ∃ _, _
              refine ⟨_, _, _, _, _, _, _, (Ext.cons rfl (Ext.cons rfl (Ext.cons rfl (Ext.cons rfl (Ext.cons rfl (Ext.cons rfl (Ext.cons rfl (Ext.cons rfl (Ext.cons rfl (Ext.cons rfl (Ext.cons rfl (Ext.cons rfl (Ext.cons rfl (Ext.cons rfl (Ext.cons rfl (Ext.cons rfl (Ext.cons rfl (Ext.nil _)))))))))))))))))), hs, ?_⟩
              exact ⟨by omega, by omega, by omega, by omega, by omega, by omega, by first | exact fun h => by have := hf7 h; omega | (intro _; omega), by first | exact fun h => hf8 (by omega) | exact fun _ => rfl, fun _ => rfl⟩
             ·
              refine W_skip_th ?_
              refine W_exit ?_
              show ∃ _, _
              refine ⟨_, _, _, _, _, _, _, (Ext.cons rfl (Ext.cons rfl (Ext.cons rfl (Ext.cons rfl (Ext.cons rfl (Ext.cons rfl (Ext.cons rfl (Ext.cons rfl (Ext.cons rfl (Ext.cons rfl (Ext.cons rfl (Ext.cons rfl (Ext.cons rfl (Ext.cons rfl (Ext.cons rfl (Ext.cons rfl (Ext.cons rfl (Ext.nil _)))))))))))))))))), hs, ?_⟩
              exact ⟨by omega, by omega, by omega, by omega, by omega, by omega, by first | exact fun h => by have := hf7 h; omega | (intro _; omega), by first | exact fun h => hf8 (by omega) | exact fun _ => rfl, fun _ => rfl⟩
      ·
       rintro e2 w2 ⟨nd2, ndm2, dp2, m2, tr2, sd2, sg2, hx, hs, hfx⟩
       refine W_forget hx ?_
       clear hx
       refine W_reg ?_
       refine s_pu (p_move rfl) rfl ?_
       refine s_pu (p_addI rfl rfl ?_) rfl ?_
       ·
        omega
       refine s_pu (p_assign rfl) rfl ?_
       refine WL_th ?_
       refine ⟨(i + 1, nd2, ndm2, dp2, m2, tr2, sd2, sg2), (Ext.cons rfl (Ext.cons rfl (Ext.cons rfl (Ext.cons rfl (Ext.cons rfl (Ext.cons rfl (Ext.cons (by show some (Value.int .i64 ((i : Int) + 1)) = _; simp) (Ext.cons rfl (Ext.cons rfl (Ext.cons rfl (Ext.cons rfl (Ext.cons rfl (Ext.cons rfl (Ext.cons rfl (Ext.cons rfl (Ext.cons rfl (Ext.cons rfl (Ext.nil _)))))))))))))))))), ⟨by omega, by omega, by simpa using hfx, hs⟩, by simp; omega⟩
     ·
      have hie : i = s.size := by have := of_decide_eq_false h3; omega
      refine W_exit ?_
      show W _ _ _ _ _ _
      refine W_seq ?_
      refine W_sr ?_
      refine s_pu (p_move rfl) rfl ?_
      refine s_pu (p_not rfl) rfl ?_
      refine WL_th ?_
      refine W_if rfl (fun h10 => ?_) (fun h10 => ?_)
      ·
       exfalso
       have hsg := hf9 (by omega)
       rw [hsg] at h10
       cases h10
      ·
       refine W_skip_th ?_
       refine W_seq ?_
       refine W_sr ?_
       refine s_pu (p_move rfl) rfl ?_
       refine s_pu (p_not rfl) rfl ?_
       refine WL_th ?_
       refine W_if rfl (fun h11 => ?_) (fun h11 => ?_)
       ·
        exfalso
        have hsd := hf8 (by omega)
        rw [hsd] at h11
        cases h11
       ·
        refine W_skip_th ?_
        refine W_forget (Ext.cd 0 rfl (Ext.cd 2 rfl (Ext.cd 3 rfl (Ext.cd 4 rfl (Ext.cd 5 rfl (Ext.cd 6 rfl (Ext.cd 7 rfl (Ext.cd 8 rfl (Ext.cd 9 rfl (Ext.cd 10 rfl (Ext.cd 12 rfl (Ext.cd 16 rfl (Ext.cd 17 rfl (Ext.nil _)))))))))))))) ?_
        refine W_seq ?_
        refine W_sr ?_
        refine s_pu (p_move rfl) rfl ?_
        refine s_pu (p_eqI rfl rfl) rfl ?_
        refine WL_th ?_
        refine W_false rfl ?_
        refine W_skip_th ?_
        refine W_seq ?_
        refine W_sr ?_
        refine s_pu (p_move rfl) rfl ?_
        refine s_pu (p_move rfl) rfl ?_
        refine s_pu (p_lenS (by kernel_rfl) rfl) rfl ?_
        refine s_pu (p_ltI rfl rfl) rfl ?_
        refine s_pu (p_move rfl) rfl ?_
        refine WL_cutb 7 161 [0, 2, 3, 4, 5, 6, 7, 8, 9, 10, 16, 17] (fun b => b = false) ?_ ?_
        ·
         refine s_bool 154 rfl (fun hb154 => ?_) (fun hb154 => ?_)
         ·
          exfalso
          have h1 := of_decide_eq_true hb154
          omega
         ·
          refine g_skip rfl rfl rfl rfl rfl ?_
          refine g_skip rfl rfl rfl rfl rfl ?_
          refine g_skip rfl rfl rfl rfl rfl ?_
          refine g_skip rfl rfl rfl rfl rfl ?_
          refine g_skip rfl rfl rfl rfl rfl ?_
          refine g_skip rfl rfl rfl rfl rfl ?_
          refine s_pu (p_pickF rfl rfl) rfl ?_
          refine WL_th ⟨rfl, _, ?_, Ext.cons rfl (ext_kd rfl rfl (ext_kd rfl rfl (ext_kd rfl rfl (ext_kd rfl rfl (ext_kd rfl rfl (ext_kd rfl rfl (ext_kd rfl rfl (ext_kd rfl rfl (ext_kd rfl rfl (ext_kd rfl rfl (ext_kd rfl rfl (ext_kd rfl rfl ext_kn))))))))))))⟩
          rfl
        ·
         intro b161 hb161
         refine WL_forget (Ext.cd 0 rfl (Ext.cd 2 rfl (Ext.cd 3 rfl (Ext.cd 4 rfl (Ext.cd 5 rfl (Ext.cd 6 rfl (Ext.cd 7 rfl (Ext.cd 8 rfl (Ext.cd 9 rfl (Ext.cd 10 rfl (Ext.cd 16 rfl (Ext.cd 17 rfl (Ext.cd 161 rfl (Ext.nil _)))))))))))))) ?_
         show WL _ _ _ [] _ _ _
         refine WL_th ?_
         refine W_false (congrArg (fun b => some (Value.bool b)) hb161) ?_
         refine W_sr ?_
         refine s_pu (p_move rfl) rfl ?_
         refine s_pu (p_eqI rfl rfl) rfl ?_
         refine WL_th ?_
         refine W_false rfl ?_
         refine W_skip_th ?_
         refine W_join (fun e' w' => ∃ ex : Int, Ext e' (upd (upd (upd (upd (upd (upd (upd (upd emp 9 (.bool false)) 7 (.int .i64 i)) 6 (.bool false)) 5 (.bool tr)) 4 (.bool ng)) 3 (.int .i64 ex)) 2 (.int .u64 m)) 0 (.string s)) ∧ St wI (fun _ => False) w' [] ∧ -60 ≤ ex ∧ ex ≤ 60) ?_ ?_
         ·
          refine W_sr ?_
          refine s_pu (p_move rfl) rfl ?_
          refine s_pu (p_neI rfl rfl) rfl ?_
          refine WL_th ?_
          refine W_if rfl (fun h12 => ?_) (fun h12 => ?_)
          ·
           refine W_reg ?_
           refine s_pu (p_move rfl) rfl ?_
           refine s_pu (p_move rfl) rfl ?_
           refine s_pu (p_subI rfl rfl ?_) rfl ?_
           ·
            (omega)
           refine s_pu (p_assign rfl) rfl ?_
           refine WL_th ?_
           exact ⟨_, (Ext.cons rfl (Ext.cons rfl (Ext.cons rfl (Ext.cons rfl (Ext.cons rfl (Ext.cons rfl (Ext.cons rfl (Ext.cons rfl (Ext.nil _))))))))), hs, by first | omega | (simp only; omega) | decide, by first | omega | (simp only; omega) | decide⟩
          ·
           refine W_skip_th ?_
           exact ⟨_, (Ext.cons rfl (Ext.cons rfl (Ext.cons rfl (Ext.cons rfl (Ext.cons rfl (Ext.cons rfl (Ext.cons rfl (Ext.cons rfl (Ext.nil _))))))))), hs, by first | omega | (simp only; omega) | decide, by first | omega | (simp only; omega) | decide⟩
         ·
          rintro e3 w3 ⟨ex, hx, hs, hex1, hex2⟩
          refine W_forget hx ?_
          clear hx
          refine W_seq ?_
          refine W_sr ?_
          refine s_pu (p_move rfl) rfl ?_
          refine s_pu (p_move rfl) rfl ?_
          refine WL_cutb 6 252 [2, 3, 4, 5, 6, 7] (fun b => b = false) ?_ ?_
          ·
           refine s_bool 246 rfl (fun hb246 => ?_) (fun hb246 => ?_)
           ·
            cases hb246
           ·
            refine g_skip rfl rfl rfl rfl rfl ?_
            refine g_skip rfl rfl rfl rfl rfl ?_
            refine g_skip rfl rfl rfl rfl rfl ?_
            refine g_skip rfl rfl rfl rfl rfl ?_
            refine g_skip rfl rfl rfl rfl rfl ?_
            refine s_pu (p_pickF rfl rfl) rfl ?_
            refine WL_th ⟨rfl, _, ?_, Ext.cons rfl (ext_kd rfl rfl (ext_kd rfl rfl (ext_kd rfl rfl (ext_kd rfl rfl (ext_kd rfl rfl (ext_kd rfl rfl ext_kn))))))⟩
            rfl
          ·
           intro b252 hb252
           refine WL_forget (Ext.cd 2 rfl (Ext.cd 3 rfl (Ext.cd 4 rfl (Ext.cd 5 rfl (Ext.cd 6 rfl (Ext.cd 7 rfl (Ext.cd 252 rfl (Ext.nil _)))))))) ?_
           show WL _ _ _ [] _ _ _
           refine WL_th ?_
           refine W_false (congrArg (fun b => some (Value.bool b)) hb252) ?_
           refine W_skip_th ?_
           refine W_sr ?_
           refine s_pu (p_assign rfl) rfl ?_
           refine WL_th ?_
           refine W_ret ?_
           refine sc_ret ?_
           refine ret_tmp7 (fn := Tryz.f123) rfl rfl rfl rfl rfl rfl rfl rfl ?_
           exact ⟨⟨_, _, _, _, by rw [hie], hex1, hex2⟩, hs.keep0⟩
end Go.Proofs.YtmalghopogngoaaGreatDoor
set_option linter.unusedVariables false
namespace Go.Proofs.YtmalghopogngoaaGreatDoor
/-- The number that the first digits make. -/
def dv (y : Nat → Nat) : Nat → Nat
  | 0 => 0
  | n + 1 => dv y n * 10 + y n
theorem dv_congr {y z : Nat → Nat} {n : Nat} (h : ∀ i, i < n → y i = z i) : dv y n = dv z n := by
  induction n with
  | zero => rfl
  | succ n ih => simp only [dv]; rw [ih fun i hi => h i (by omega), h n (by omega)]
theorem dv_lt {y : Nat → Nat} {n : Nat} (h : ∀ i, i < n → y i < 10) : dv y n < 10 ^ n := by
  induction n with
  | zero => simp [dv]
  | succ n ih =>
    have h1 := ih fun i hi => h i (by omega)
    have h2 := h n (by omega)
    simp only [dv, Nat.pow_succ]
    omega
theorem dv_ge {y : Nat → Nat} (h0 : 1 ≤ y 0) (n : Nat) : 10 ^ n ≤ dv y (n + 1) := by
  induction n with
  | zero => simpa [dv] using h0
  | succ n ih =>
    rw [dv, Nat.pow_succ]
    omega
theorem dv_add_lo (y : Nat → Nat) (a b : Nat) : dv y a * 10 ^ b ≤ dv y (a + b) := by
  induction b with
  | zero => simp
  | succ b ih =>
    rw [← Nat.add_assoc, dv, Nat.pow_succ, ← Nat.mul_assoc]
    omega
theorem dv_add_hi {y : Nat → Nat} {a b : Nat} (h : ∀ i, i < a + b → y i < 10) : dv y (a + b) < (dv y a + 1) * 10 ^ b := by
  induction b with
  | zero => simp
  | succ b ih =>
    have h1 := ih fun i hi => h i (by omega)
    have h2 := h (a + b) (by omega)
    rw [← Nat.add_assoc, dv, Nat.pow_succ, ← Nat.mul_assoc]
    omega
theorem p10 (n : Nat) : 0 < (10 : Nat) ^ n := Nat.pow_pos (by decide)
/-! ### texts compared -/
theorem pl_short {y c : Nat → Nat} {n m : Nat} (hnm : n < m) (ha : ∀ i, i < n → y i = c i) (hl : 1 ≤ c (m - 1)) : dv y n * 10 ^ m < dv c m * 10 ^ n := by
  obtain ⟨j, rfl⟩ : ∃ j, m = n + j + 1 := ⟨m - n - 1, by omega⟩
  rw [dv_congr ha]
  have h1 := dv_add_lo c n j
  have h2 : dv c (n + j + 1) = dv c (n + j) * 10 + c (n + j) := rfl
  have h3 : 1 ≤ c (n + j) := by simpa using hl
  have h4 : dv c n * 10 ^ j * 10 < dv c (n + j + 1) := by omega
  have h5 : (10 : Nat) ^ (n + j + 1) = 10 ^ j * 10 * 10 ^ n := by
    rw [show n + j + 1 = (j + 1) + n by omega, Nat.pow_add, Nat.pow_succ]
  rw [h5, ← Nat.mul_assoc, ← Nat.mul_assoc]
  exact Nat.mul_lt_mul_of_pos_right h4 (p10 n)
theorem pl_lt {y c : Nat → Nat} {n m i : Nat} (hn : i < n) (hm : i < m) (ha : ∀ j, j < i → y j = c j) (hy : ∀ j, j < n → y j < 10) (hlt : y i < c i) : dv y n * 10 ^ m < dv c m * 10 ^ n := by
  obtain ⟨a, rfl⟩ : ∃ a, n = i + 1 + a := ⟨n - i - 1, by omega⟩
  obtain ⟨b, rfl⟩ : ∃ b, m = i + 1 + b := ⟨m - i - 1, by omega⟩
  have h1 := dv_add_hi (a := i + 1) (b := a) hy
  have h2 : dv y (i + 1) + 1 ≤ dv c (i + 1) := by
    simp only [dv]
    rw [dv_congr ha]
    omega
  have h3 := dv_add_lo c (i + 1) b
  have h4 : dv y (i + 1 + a) < dv c (i + 1) * 10 ^ a := Nat.lt_of_lt_of_le h1 (Nat.mul_le_mul_right _ h2)
  have h5 := Nat.mul_lt_mul_of_pos_right h4 (p10 (i + 1 + b))
  have h6 := Nat.mul_le_mul_right (10 ^ (i + 1 + a)) h3
  have h7 : dv c (i + 1) * 10 ^ a * 10 ^ (i + 1 + b) = dv c (i + 1) * 10 ^ b * 10 ^ (i + 1 + a) := by
    rw [Nat.mul_assoc, Nat.mul_assoc, ← Nat.pow_add, ← Nat.pow_add]
    congr 2
    omega
  rw [h7] at h5
  exact Nat.lt_of_lt_of_le h5 h6
theorem pl_pref {y c : Nat → Nat} {n m : Nat} (hmn : m ≤ n) (ha : ∀ i, i < m → y i = c i) : dv c m * 10 ^ n ≤ dv y n * 10 ^ m := by
  obtain ⟨a, rfl⟩ : ∃ a, n = m + a := ⟨n - m, by omega⟩
  rw [← dv_congr ha]
  have h1 := Nat.mul_le_mul_right (10 ^ m) (dv_add_lo y m a)
  have h2 : dv y m * 10 ^ (m + a) = dv y m * 10 ^ a * 10 ^ m := by
    rw [Nat.mul_assoc, ← Nat.pow_add, Nat.add_comm]
  rw [h2]
  exact h1
/-! ### carries -/
/-- What is carried over the j digits from i on, each K times. -/
def cr (y : Nat → Nat) (K : Nat) : Nat → Nat → Nat
  | _, 0 => 0
  | i, j + 1 => (cr y K (i + 1) j + y i * K) / 10
theorem dv_front (z : Nat → Nat) (j : Nat) : dv z (j + 1) = z 0 * 10 ^ j + dv (fun t => z (t + 1)) j := by
  induction j with
  | zero => simp [dv]
  | succ j ih =>
    rw [dv, ih]
    simp only [dv, Nat.pow_succ]
    rw [Nat.add_mul, Nat.mul_assoc, Nat.add_assoc]
theorem cr_eq (y : Nat → Nat) (K : Nat) : ∀ (j i : Nat), cr y K i j = dv (fun t => y (i + t)) j * K / 10 ^ j
  | 0, i => by simp [cr, dv]
  | j + 1, i => by
    rw [cr, cr_eq y K j (i + 1), dv_front]
    have e : (fun t => y (i + 1 + t)) = (fun t => y (i + (t + 1))) := by
      funext t
      congr 1
      omega
    rw [e, Nat.add_zero, Nat.pow_succ, ← Nat.div_div_eq_div_mul]
    congr 1
    rw [← Nat.add_mul_div_right _ _ (p10 j), Nat.add_mul, Nat.add_comm]
    congr 2
    rw [Nat.mul_assoc, Nat.mul_assoc, Nat.mul_comm K]
theorem cr_all (y : Nat → Nat) (K n : Nat) : cr y K 0 n = dv y n * K / 10 ^ n := by
  rw [cr_eq]
  simp only [Nat.zero_add]
theorem cr_lt {y : Nat → Nat} {K : Nat} (hK : 0 < K) : ∀ (j i : Nat), (∀ t, t < j → y (i + t) < 10) → cr y K i j < K
  | 0, _, _ => hK
  | j + 1, i, h => by
    have h1 := cr_lt hK j (i + 1) fun t ht => by
      have := h (t + 1) (by omega)
      rwa [show i + (t + 1) = i + 1 + t by omega] at this
    have h2 : y i ≤ 9 := by have := h 0 (by omega); rw [Nat.add_zero] at this; omega
    have h3 := Nat.mul_le_mul_right K h2
    rw [cr, Nat.div_lt_iff_lt_mul (by decide)]
    omega
/-! ### how many digits a number has -/
def ndig (n w : Nat) : Prop := n < 10 ^ w ∧ (w = 0 ∨ 10 ^ (w - 1) ≤ n)
theorem ndig_pos {n w : Nat} (h : ndig n w) (hn : 0 < n) : 1 ≤ w := by
  rcases Nat.eq_zero_or_pos w with rfl | hw
  · have := h.1; simp at this; omega
  · exact hw
theorem ndig_zero {w : Nat} (h : ndig 0 w) : w = 0 := by
  rcases h.2 with h | h
  · exact h
  · have := p10 (w - 1); omega
theorem ndig_div {n w : Nat} (h : ndig n w) (hn : 0 < n) : ndig (n / 10) (w - 1) := by
  have h0 := ndig_pos h hn
  obtain ⟨v, rfl⟩ : ∃ v, w = v + 1 := ⟨w - 1, by omega⟩
  obtain ⟨h1, h2⟩ := h
  rw [Nat.pow_succ] at h1
  rw [Nat.add_sub_cancel] at h2 ⊢
  refine ⟨by omega, ?_⟩
  rcases Nat.eq_zero_or_pos v with rfl | hv
  · exact .inl rfl
  · refine .inr ?_
    have h3 := h2.resolve_left (by omega)
    have h4 : (10 : Nat) ^ v = 10 ^ (v - 1) * 10 := by rw [← Nat.pow_succ]; congr 1; omega
    omega
/-- The new digits that a shift to the left brings. -/
theorem shift_digits {y c : Nat → Nat} {n k d m : Nat} (hn : 1 ≤ n) (hy : ∀ i, i < n → y i < 10) (h0 : 1 ≤ y 0) (h5 : dv c m = 5 ^ k) (hk : k + 1 = d + m) (hd : 1 ≤ d) (hlo : 10 ^ (d - 1) ≤ 2 ^ k) (hhi : 2 ^ k < 10 ^ d)
    (b : Bool) (ht : b = true → dv y n * 10 ^ m < dv c m * 10 ^ n) (hf : b = false → dv c m * 10 ^ n ≤ dv y n * 10 ^ m) : ndig (dv y n * 2 ^ k / 10 ^ n) (if b then d - 1 else d) := by
  obtain ⟨v, rfl⟩ : ∃ v, d = v + 1 := ⟨d - 1, by omega⟩
  rw [Nat.add_sub_cancel] at hlo ⊢
  have hkm : k = v + m := by omega
  have e10 : (5 : Nat) ^ k * 2 ^ k = 10 ^ v * 10 ^ m := by
    rw [← Nat.mul_pow, ← Nat.pow_add, hkm]
  have hge : 10 ^ (n - 1) ≤ dv y n := by
    have := dv_ge h0 (n - 1)
    rwa [show n - 1 + 1 = n by omega] at this
  have hlt := dv_lt hy
  have hp2 : 0 < (2 : Nat) ^ k := Nat.pow_pos (by decide)
  cases b with
  | true =>
    have ht := ht rfl
    rw [h5] at ht
    have h1 := Nat.mul_lt_mul_of_pos_right ht hp2
    have h2 : dv y n * 2 ^ k * 10 ^ m < 10 ^ v * 10 ^ n * 10 ^ m := by
      calc dv y n * 2 ^ k * 10 ^ m = dv y n * 10 ^ m * 2 ^ k := by rw [Nat.mul_assoc, Nat.mul_comm (2 ^ k), ← Nat.mul_assoc]
        _ < 5 ^ k * 10 ^ n * 2 ^ k := h1
        _ = 5 ^ k * 2 ^ k * 10 ^ n := by rw [Nat.mul_assoc, Nat.mul_comm (10 ^ n), ← Nat.mul_assoc]
        _ = 10 ^ v * 10 ^ n * 10 ^ m := by rw [e10, Nat.mul_assoc, Nat.mul_comm (10 ^ m), ← Nat.mul_assoc]
    have h3 := Nat.lt_of_mul_lt_mul_right h2
    refine ⟨(Nat.div_lt_iff_lt_mul (p10 n)).2 h3, ?_⟩
    simp only [if_true]
    rcases Nat.eq_zero_or_pos v with rfl | hv
    · exact .inl rfl
    · refine .inr ((Nat.le_div_iff_mul_le (p10 n)).2 ?_)
      calc (10 : Nat) ^ (v - 1) * 10 ^ n = 10 ^ (n - 1) * 10 ^ v := by
            rw [← Nat.pow_add, ← Nat.pow_add]
            congr 1
            omega
        _ ≤ dv y n * 2 ^ k := Nat.mul_le_mul hge hlo
  | false =>
    have hf := hf rfl
    rw [h5] at hf
    have h1 := Nat.mul_le_mul_right (2 ^ k) hf
    have h2 : 10 ^ v * 10 ^ n * 10 ^ m ≤ dv y n * 2 ^ k * 10 ^ m := by
      calc 10 ^ v * 10 ^ n * 10 ^ m = 5 ^ k * 2 ^ k * 10 ^ n := by rw [e10, Nat.mul_assoc, Nat.mul_comm (10 ^ n), ← Nat.mul_assoc]
        _ = 5 ^ k * 10 ^ n * 2 ^ k := by rw [Nat.mul_assoc, Nat.mul_comm (2 ^ k), ← Nat.mul_assoc]
        _ ≤ dv y n * 10 ^ m * 2 ^ k := h1
        _ = dv y n * 2 ^ k * 10 ^ m := by rw [Nat.mul_assoc, Nat.mul_comm (10 ^ m), ← Nat.mul_assoc]
    have h3 := Nat.le_of_mul_le_mul_right h2 (p10 m)
    simp only [Bool.false_eq_true, if_false]
    refine ⟨(Nat.div_lt_iff_lt_mul (p10 n)).2 ?_, .inr ((Nat.le_div_iff_mul_le (p10 n)).2 (by rwa [Nat.add_sub_cancel]))⟩
    calc dv y n * 2 ^ k < 10 ^ n * 2 ^ k := Nat.mul_lt_mul_of_pos_right hlt hp2
      _ ≤ 10 ^ n * 10 ^ (v + 1) := Nat.mul_le_mul_left _ (Nat.le_of_lt hhi)
      _ = 10 ^ (v + 1) * 10 ^ n := Nat.mul_comm _ _
end Go.Proofs.YtmalghopogngoaaGreatDoor
set_option linter.unusedVariables false
set_option linter.unusedSimpArgs false
set_option maxRecDepth 4000
namespace Go.Proofs.YtmalghopogngoaaGreatDoor
open Go Go.RowKit MW
/-- A decimal: its digits, how many, the point, the sign, whether digits were lost. -/
def dC (x : Nat → Int) (nd dp : Int) (ng tr : Bool) : Nat → Value := fun i => bif Nat.blt i 800 then .int .u8 (x i) else cl [.int .i64 nd, .int .i64 dp, .bool ng, .bool tr] (i - 800)
theorem blt_t {i n : Nat} (h : i < n) : Nat.blt i n = true := Nat.ble_eq_true_of_le h
theorem blt_f {i n : Nat} (h : n ≤ i) : Nat.blt i n = false := by
 cases hb : Nat.blt i n with
 | true => exact absurd (Nat.le_of_ble_eq_true hb) (by omega)
 | false => rfl
theorem dC_x {x : Nat → Int} {nd dp : Int} {ng tr : Bool} {i : Nat} (h : i < 800) : dC x nd dp ng tr i = .int .u8 (x i) := by
 unfold dC
 rw [blt_t h]
 rfl
theorem dC_sx {x : Nat → Int} {nd dp : Int} {ng tr : Bool} {o : Nat} {v : Int} (h : o < 800) : ∀ i, i < 804 → updC (dC x nd dp ng tr) o (.int .u8 v) i = dC (updN x o v) nd dp ng tr i := fun i hi => by
 unfold updC dC updN
 cases hb : Nat.beq i o with
 | true =>
  obtain rfl := Nat.eq_of_beq_eq_true hb
  rw [blt_t h]
  rfl
 | false =>
  cases Nat.blt i 800 <;> rfl
theorem dC_hi {x : Nat → Int} {l l' : List Value} {i o : Nat} {v : Value} (h : 800 ≤ o) (hl : ∀ j, j < 4 → updC (cl l) (o - 800) v j = cl l' j) (hi : i < 804) :
  updC (fun i => bif Nat.blt i 800 then Value.int .u8 (x i) else cl l (i - 800)) o v i = (bif Nat.blt i 800 then Value.int .u8 (x i) else cl l' (i - 800)) := by
 by_cases h8 : i < 800
 ·
  unfold updC
  have hne : Nat.beq i o = false := by
   cases hb : Nat.beq i o with
   | true => have := Nat.eq_of_beq_eq_true hb; omega
   | false => rfl
  dsimp only
  rw [hne, blt_t h8]
  rfl
 ·
  have h9 := hl (i - 800) (by omega)
  unfold updC at h9 ⊢
  dsimp only
  rw [blt_f (by omega)]
  have he : Nat.beq (i - 800) (o - 800) = Nat.beq i o := by
   cases hb : Nat.beq i o with
   | true =>
    obtain rfl := Nat.eq_of_beq_eq_true hb
    exact Nat.beq_refl _
   | false =>
    cases hb2 : Nat.beq (i - 800) (o - 800) with
    | true =>
     have := Nat.eq_of_beq_eq_true hb2
     have : i = o := by omega
     subst this
     rw [Nat.beq_refl] at hb
     cases hb
    | false => rfl
  rw [he] at h9
  exact h9
section
variable {P : Program} {N : Nat} {Q : Exit → Env → World → Prop} {e : Env} {w w0 : World} {ops : Array Oper} {rest : List Oper} {F : Foot} {G G' : List Assn} {d : Nat} {ty : TypeId} {pos : String} {af : Array Edge} {y z : Operand} {b : Nat} {x : Nat → Int} {nd dp : Int} {ng tr : Bool}
theorem k_dnd [One P 3] (hb : w.heap[b]? = some (.cells (mkA 804 (dC x nd dp ng tr)) 268 (0, 0))) (hx : evo e y = some (.pointer (some ⟨b, 0 + 800, none⟩))) (hN : Nat.blt d N = true) (h : WL P ops N rest Q (upd e d (.int .i64 nd)) w) : WL P ops N (⟨some d, .load 3 y, ty, pos, af, none⟩ :: rest) Q e w :=
 s_at (m_load1 hx (pt_cell hb 800 (by decide))) hN h
theorem k_ddp [One P 3] (hb : w.heap[b]? = some (.cells (mkA 804 (dC x nd dp ng tr)) 268 (0, 0))) (hx : evo e y = some (.pointer (some ⟨b, 0 + 801, none⟩))) (hN : Nat.blt d N = true) (h : WL P ops N rest Q (upd e d (.int .i64 dp)) w) : WL P ops N (⟨some d, .load 3 y, ty, pos, af, none⟩ :: rest) Q e w :=
 s_at (m_load1 hx (pt_cell hb 801 (by decide))) hN h
theorem k_dng [One P 4] (hb : w.heap[b]? = some (.cells (mkA 804 (dC x nd dp ng tr)) 268 (0, 0))) (hx : evo e y = some (.pointer (some ⟨b, 0 + 802, none⟩))) (hN : Nat.blt d N = true) (h : WL P ops N rest Q (upd e d (.bool ng)) w) : WL P ops N (⟨some d, .load 4 y, ty, pos, af, none⟩ :: rest) Q e w :=
 s_at (m_load1 hx (pt_cell hb 802 (by decide))) hN h
theorem k_dtr [One P 4] (hb : w.heap[b]? = some (.cells (mkA 804 (dC x nd dp ng tr)) 268 (0, 0))) (hx : evo e y = some (.pointer (some ⟨b, 0 + 803, none⟩))) (hN : Nat.blt d N = true) (h : WL P ops N rest Q (upd e d (.bool tr)) w) : WL P ops N (⟨some d, .load 4 y, ty, pos, af, none⟩ :: rest) Q e w :=
 s_at (m_load1 hx (pt_cell hb 803 (by decide))) hN h
theorem q_dx [One P 5] {i : Int} (hb : w.heap[b]? = some (.cells (mkA 804 (dC x nd dp ng tr)) 268 (0, 0))) (hx : evo e y = some (.pointer (some ⟨b, 0 + 0 + i.toNat * 1, none⟩))) (hi : i.toNat < 800) : At P N e (.load 5 y) w (.int .u8 (x i.toNat)) := by
 have hc := pt_cell hb (0 + 0 + i.toNat * 1) (by omega)
 rw [show 0 + 0 + i.toNat * 1 = i.toNat by omega] at hc hx
 rw [dC_x hi] at hc
 exact m_load1 hx hc
theorem k_dx [One P 5] {i : Int} (hb : w.heap[b]? = some (.cells (mkA 804 (dC x nd dp ng tr)) 268 (0, 0))) (hx : evo e y = some (.pointer (some ⟨b, 0 + 0 + i.toNat * 1, none⟩))) (hi : i.toNat < 800) (hN : Nat.blt d N = true) (h : WL P ops N rest Q (upd e d (.int .u8 (x i.toNat))) w) : WL P ops N (⟨some d, .load 5 y, ty, pos, af, none⟩ :: rest) Q e w :=
 s_at (q_dx hb hx hi) hN h
theorem k_sx [One P 5] {i v : Int} (hs : St w0 F w (pt b 268 804 (dC x nd dp ng tr) :: G)) (hx : evo e y = some (.pointer (some ⟨b, 0 + 0 + i.toNat * 1, none⟩))) (hz : evo e z = some (.int .u8 v)) (hi : i.toNat < 800)
  (h : ∀ w', St w0 F w' (pt b 268 804 (dC (updN x i.toNat v) nd dp ng tr) :: G) → WL P ops N rest Q e w') : WL P ops N (⟨none, .store 5 y z, ty, pos, af, none⟩ :: rest) Q e w := by
 rw [show 0 + 0 + i.toNat * 1 = i.toNat by omega] at hx
 exact k_st hs hx hz .head rfl (blt_t (by omega)) fun w' hs' => h w' (hs'.imp .head (pt_to (dC_sx hi)))
theorem k_snd [One P 3] {v : Int} (hs : St w0 F w (pt b 268 804 (dC x nd dp ng tr) :: G)) (hx : evo e y = some (.pointer (some ⟨b, 0 + 800, none⟩))) (hz : evo e z = some (.int .i64 v))
  (h : ∀ w', St w0 F w' (pt b 268 804 (dC x v dp ng tr) :: G) → WL P ops N rest Q e w') : WL P ops N (⟨none, .store 3 y z, ty, pos, af, none⟩ :: rest) Q e w :=
 k_st hs hx hz .head rfl rfl fun w' hs' => h w' (hs'.imp .head (pt_to fun i hi => dC_hi (by decide) (by repeat (first | exact below_zero | refine below_succ ?_ rfl)) hi))
theorem k_sdp [One P 3] {v : Int} (hs : St w0 F w (pt b 268 804 (dC x nd dp ng tr) :: G)) (hx : evo e y = some (.pointer (some ⟨b, 0 + 801, none⟩))) (hz : evo e z = some (.int .i64 v))
  (h : ∀ w', St w0 F w' (pt b 268 804 (dC x nd v ng tr) :: G) → WL P ops N rest Q e w') : WL P ops N (⟨none, .store 3 y z, ty, pos, af, none⟩ :: rest) Q e w :=
 k_st hs hx hz .head rfl rfl fun w' hs' => h w' (hs'.imp .head (pt_to fun i hi => dC_hi (by decide) (by repeat (first | exact below_zero | refine below_succ ?_ rfl)) hi))
theorem k_sng [One P 4] {v : Bool} (hs : St w0 F w (pt b 268 804 (dC x nd dp ng tr) :: G)) (hx : evo e y = some (.pointer (some ⟨b, 0 + 802, none⟩))) (hz : evo e z = some (.bool v))
  (h : ∀ w', St w0 F w' (pt b 268 804 (dC x nd dp v tr) :: G) → WL P ops N rest Q e w') : WL P ops N (⟨none, .store 4 y z, ty, pos, af, none⟩ :: rest) Q e w :=
 k_st hs hx hz .head rfl rfl fun w' hs' => h w' (hs'.imp .head (pt_to fun i hi => dC_hi (by decide) (by repeat (first | exact below_zero | refine below_succ ?_ rfl)) hi))
theorem k_str [One P 4] {v : Bool} (hs : St w0 F w (pt b 268 804 (dC x nd dp ng tr) :: G)) (hx : evo e y = some (.pointer (some ⟨b, 0 + 803, none⟩))) (hz : evo e z = some (.bool v))
  (h : ∀ w', St w0 F w' (pt b 268 804 (dC x nd dp ng v) :: G) → WL P ops N rest Q e w') : WL P ops N (⟨none, .store 4 y z, ty, pos, af, none⟩ :: rest) Q e w :=
 k_st hs hx hz .head rfl rfl fun w' hs' => h w' (hs'.imp .head (pt_to fun i hi => dC_hi (by decide) (by repeat (first | exact below_zero | refine below_succ ?_ rfl)) hi))
theorem p_gtT {T U : TypeId} {x y : Operand} {k : IntKind} {m n : Int} (hx : evo e x = some (.int k m)) (hy : evo e y = some (.int k n)) (h : n < m) : Pu P N e (.binOp .gtr T x y U) (.bool true) := by
 have := p_gtI (P := P) (N := N) (T := T) (U := U) hx hy
 rwa [decide_eq_true h] at this
end
/-- Digits, the first of which is not 0. -/
def Digs (x : Nat → Int) (n : Nat) : Prop := ∀ i, i < n → 48 ≤ x i ∧ x i ≤ 57
theorem c_trim (db : Nat) (x : Nat → Int) (nd : Nat) (dp : Int) (ng tr : Bool) (h1 : 1 ≤ nd) (h2 : nd ≤ 800) (h0 : x 0 ≠ 48) :
  MW.Spec Tryz.prog 159 [.pointer (some ⟨db, 0, none⟩)].toArray [pt db 268 804 (dC x (nd : Nat) dp ng tr)] fun v G => ∃ m : Nat, 1 ≤ m ∧ m ≤ nd ∧ G = [pt db 268 804 (dC x (m : Nat) dp ng tr)] := by
 intro wI S hsat
 have hs := St.start hsat
 refine calls_W (args := [_]) Tryz.func159 rfl Tryz.ntmps159 rfl ?_
 refine W_seq ?_
 refine W_block ?_
 refine W_loop (α := Nat) (fun y => (upd emp 0 (.pointer (some ⟨db, 0, none⟩)))) (fun y w => 1 ≤ y ∧ y ≤ nd ∧ St wI S w [pt db 268 804 (dC x (y : Nat) dp ng tr)]) (fun y => y) nd (Ext.cons rfl (Ext.nil _)) ⟨h1, Nat.le_refl _, hs⟩ (fun y w hx => ?_)
 obtain ⟨hy1, hy2, hs⟩ := hx
 refine W_seq ?_
 refine W_seq ?_
 refine h_start (S := fun w => w.heap[db]? = some (.cells (mkA 804 (dC x (y : Nat) dp ng tr)) 268 (0, 0))) (ls := #[false, false, false, false, false, false, false, false, false, false, false, false, false, false, false, false, false, false]) (n := 18) (by kernel_rfl) (by kernel_rfl) ?_
 have hs := hs.drew
 refine h_pu 0 rfl (ls' := #[true, false, false, false, false, false, false, false, false, false, false, false, false, false, false, false, false, false]) (by kernel_rfl) (fun _ _ _ h => h) rfl (hs.cell .head) (p_move rfl) ?_
 refine h_pu 1 rfl (ls' := #[true, true, false, false, false, false, false, false, false, false, false, false, false, false, false, false, false, false]) (by kernel_rfl) (fun _ _ _ h => h) rfl (hs.cell .head) (p_nilCheck rfl) ?_
 refine h_pu 2 rfl (ls' := #[true, true, true, false, false, false, false, false, false, false, false, false, false, false, false, false, false, false]) (by kernel_rfl) (fun _ _ _ h => h) rfl (hs.cell .head) (p_field rfl) ?_
 refine h_take 3 rfl (ls' := #[true, true, true, true, false, false, false, false, false, false, false, false, false, false, false, false, false, false]) (by kernel_rfl) (fun _ _ _ h => h) rfl (hs.cell .head) (fun w hw => m_load1 rfl (pt_cell hw 800 (by decide))) ?_
 refine h_pu 4 rfl (ls' := #[true, true, true, true, true, false, false, false, false, false, false, false, false, false, false, false, false, false]) (by kernel_rfl) (fun _ _ _ h => h) rfl (hs.cell .head) (p_gtT (m := (y : Int)) (n := 0) rfl rfl (by omega)) ?_
 refine h_pu 5 rfl (ls' := #[true, true, true, true, true, true, false, false, false, false, false, false, false, false, false, false, false, false]) (by kernel_rfl) (fun _ _ _ h => h) rfl (hs.cell .head) (p_move rfl) ?_
 refine h_puG 6 rfl (ls' := #[true, true, true, true, true, true, true, false, false, false, false, false, false, false, false, false, false, false]) (by kernel_rfl) (fun _ _ _ h => h) rfl rfl rfl rfl (hs.cell .head) (fun w _ => Pu.at (p_move rfl) w) ?_
 refine h_puG 7 rfl (ls' := #[true, true, true, true, true, true, true, true, false, false, false, false, false, false, false, false, false, false]) (by kernel_rfl) (fun _ _ _ h => h) rfl rfl rfl rfl (hs.cell .head) (fun w _ => Pu.at (p_move rfl) w) ?_
 refine h_puG 8 rfl (ls' := #[true, true, true, true, true, true, true, true, true, false, false, false, false, false, false, false, false, false]) (by kernel_rfl) (fun _ _ _ h => h) rfl rfl rfl rfl (hs.cell .head) (fun w _ => Pu.at (p_nilCheck rfl) w) ?_
 refine h_puG 9 rfl (ls' := #[true, true, true, true, true, true, true, true, true, true, false, false, false, false, false, false, false, false]) (by kernel_rfl) (fun _ _ _ h => h) rfl rfl rfl rfl (hs.cell .head) (fun w _ => Pu.at (p_field rfl) w) ?_
 refine h_puG 10 rfl (ls' := #[true, true, true, true, true, true, true, true, true, true, true, false, false, false, false, false, false, false]) (by kernel_rfl) (fun _ _ _ h => h) rfl rfl rfl rfl (hs.cell .head) (fun w hw => m_load1 rfl (pt_cell hw 800 (by decide))) ?_
 refine h_puG 11 rfl (ls' := #[true, true, true, true, true, true, true, true, true, true, true, true, false, false, false, false, false, false]) (by kernel_rfl) (fun _ _ _ h => h) rfl rfl rfl rfl (hs.cell .head) (fun w _ => Pu.at (p_subI rfl rfl ?_) w) ?_
 ·
  (show _ ≤ (y : Int) - 1 ∧ (y : Int) - 1 ≤ _; omega)
 refine h_puG 12 rfl (ls' := #[true, true, true, true, true, true, true, true, true, true, true, true, true, false, false, false, false, false]) (by kernel_rfl) (fun _ _ _ h => h) rfl rfl rfl rfl (hs.cell .head) (fun w _ => Pu.at (p_nilCheck rfl) w) ?_
 refine h_puG 13 rfl (ls' := #[true, true, true, true, true, true, true, true, true, true, true, true, true, true, false, false, false, false]) (by kernel_rfl) (fun _ _ _ h => h) rfl rfl rfl rfl (hs.cell .head) (fun w _ => Pu.at (p_field rfl) w) ?_
 refine h_puG 14 rfl (ls' := #[true, true, true, true, true, true, true, true, true, true, true, true, true, true, true, false, false, false]) (by kernel_rfl) (fun _ _ _ h => h) rfl rfl rfl rfl (hs.cell .head) (fun w _ => Pu.at (p_elemA rfl rfl ?_ ?_) w) ?_
 ·
  (show (0 : Int) ≤ (y : Int) - 1; omega)
 ·
  (show (y : Int) - 1 < 800; omega)
 refine h_puG 15 rfl (ls' := #[true, true, true, true, true, true, true, true, true, true, true, true, true, true, true, true, false, false]) (by kernel_rfl) (fun _ _ _ h => h) rfl rfl rfl rfl (hs.cell .head) (fun w hw => q_dx (i := (y : Int) - 1) hw rfl (by omega)) ?_
 refine h_puG 16 rfl (ls' := #[true, true, true, true, true, true, true, true, true, true, true, true, true, true, true, true, true, false]) (by kernel_rfl) (fun _ _ _ h => h) rfl rfl rfl rfl (hs.cell .head) (fun w _ => Pu.at (p_eqI rfl rfl) w) ?_
 refine h_pu 17 rfl (ls' := #[true, true, true, true, true, true, true, true, true, true, true, true, true, true, true, true, true, true]) (by kernel_rfl) (fun _ _ _ h => h) rfl (hs.cell .head) (p_pickT rfl rfl) ?_
 refine h_done (by kernel_rfl) ?_
 show W _ _ _ _ _ _
 refine W_if rfl (fun h19 => ?_) (fun h19 => ?_)
 ·
  have hz : y = 1 → x 0 = 48 := fun h => by have h2 := eq_of_beq h19; rw [show ((y : Int) - 1).toNat = 0 by omega] at h2; exact h2
  refine W_skip_th ?_
  refine W_block ?_
  refine W_reg ?_
  refine s_pu (p_move rfl) rfl ?_
  refine s_pu (p_nilCheck rfl) rfl ?_
  refine s_pu (p_field rfl) rfl ?_
  refine k_dnd (hs.cell .head) rfl rfl ?_
  refine s_pu (p_subI rfl rfl ?_) rfl ?_
  ·
   omega
  refine s_pu (p_nilCheck rfl) rfl ?_
  refine s_pu (p_field rfl) rfl ?_
  refine k_snd hs rfl rfl ?_
  intro _ hs
  refine WL_nil ?_
  show ∃ _, _
  refine ⟨y - 1, (Ext.cons rfl (Ext.nil _)), ⟨?_, by omega, ?_⟩, by omega⟩
  ·
   exact Nat.le_of_not_lt fun h => by obtain rfl : y = 1 := (by omega); exact h0 (hz rfl)
  ·
   rw [show ((y - 1 : Nat) : Int) = (y : Int) - 1 by omega]; exact hs
 ·
  refine W_exit ?_
  show W _ _ _ _ _ _
  refine W_forget (Ext.cd 0 rfl (Ext.nil _)) ?_
  refine W_sr ?_
  refine s_pu (p_move rfl) rfl ?_
  refine s_pu (p_nilCheck rfl) rfl ?_
  refine s_pu (p_field rfl) rfl ?_
  refine k_dnd (hs.cell .head) rfl rfl ?_
  refine s_pu (p_eqI rfl rfl) rfl ?_
  refine WL_th ?_
  refine W_if rfl (fun h31 => ?_) (fun h31 => ?_)
  ·
   exfalso
   have := eq_of_beq h31
   omega
  ·
   refine W_skip ?_
   refine end_none (fn := Tryz.f159) rfl ?_
   exact hs.spec ⟨y, hy1, hy2, rfl⟩
theorem c_shouldRoundUp (db : Nat) (x : Nat → Int) (nd : Nat) (dp : Int) (ng tr : Bool) (q : Int) (h2 : nd ≤ 800) (wI : World) (hf : wI.heap[db]? = some (.cells (mkA 804 (dC x (nd : Nat) dp ng tr)) 268 (0, 0))) : Quiet Tryz.prog 157 [.pointer (some ⟨db, 0, none⟩), .int .i64 q] wI fun v => ∃ b, v = .bool b := by
 have hs := St.startNone wI
 refine calls_W (args := [_, _]) Tryz.func157 rfl Tryz.ntmps157 rfl ?_
 refine W_sr ?_
 refine s_pu (p_assign rfl) rfl ?_
 refine WL_th ?_
 refine W_seq ?_
 refine W_sr ?_
 refine s_pu (p_move rfl) rfl ?_
 refine s_pu (p_ltI rfl rfl) rfl ?_
 refine s_pu (p_move rfl) rfl ?_
 refine WL_cutb 7 14 [0, 1] (fun b => b = false → 0 ≤ q ∧ q < nd) ?_ ?_
 ·
  refine s_bool 7 rfl (fun hb7 => ?_) (fun hb7 => ?_)
  ·
   refine g_skip rfl rfl rfl rfl rfl ?_
   refine g_skip rfl rfl rfl rfl rfl ?_
   refine g_skip rfl rfl rfl rfl rfl ?_
   refine g_skip rfl rfl rfl rfl rfl ?_
   refine g_skip rfl rfl rfl rfl rfl ?_
   refine g_skip rfl rfl rfl rfl rfl ?_
   refine s_pu (p_pickT rfl rfl) rfl ?_
   refine WL_th ⟨rfl, _, ?_, Ext.cons rfl (ext_kd rfl rfl (ext_kd rfl rfl ext_kn))⟩
   exact fun h => by cases h
  ·
   refine g_take rfl rfl rfl ?_
   refine s_pu (p_move rfl) rfl ?_
   refine g_take rfl rfl rfl ?_
   refine s_pu (p_move rfl) rfl ?_
   refine g_take rfl rfl rfl ?_
   refine s_pu (p_nilCheck rfl) rfl ?_
   refine g_take rfl rfl rfl ?_
   refine s_pu (p_field rfl) rfl ?_
   refine g_take rfl rfl rfl ?_
   refine k_dnd (hs.old hf) rfl rfl ?_
   refine g_take rfl rfl rfl ?_
   refine s_pu (p_geI rfl rfl) rfl ?_
   refine s_pu (p_pickF rfl rfl) rfl ?_
   refine WL_th ⟨rfl, _, ?_, Ext.cons rfl (ext_kd rfl rfl (ext_kd rfl rfl ext_kn))⟩
   exact fun h => ⟨by have := of_decide_eq_false hb7; omega, by have := of_decide_eq_false h; omega⟩
 ·
  intro b14 hb14
  refine WL_forget (Ext.cd 0 rfl (Ext.cd 1 rfl (Ext.cd 14 rfl (Ext.nil _)))) ?_
  show WL _ _ _ [] _ _ _
  refine WL_th ?_
  refine W_if rfl (fun h14 => ?_) (fun h14 => ?_)
  ·
   refine W_sr ?_
   refine s_pu (p_assign rfl) rfl ?_
   refine WL_th ?_
   refine W_ret ?_
   refine th_ret ?_
   refine ret_tmp (fn := Tryz.f157) rfl rfl ?_
   exact ⟨⟨_, rfl⟩, hs.keep0⟩
  ·
   obtain ⟨hq1, hq2⟩ := hb14 h14
   refine W_skip_th ?_
   refine W_seq ?_
   refine W_sr ?_
   refine s_pu (p_move rfl) rfl ?_
   refine s_pu (p_move rfl) rfl ?_
   refine s_pu (p_nilCheck rfl) rfl ?_
   refine s_pu (p_field rfl) rfl ?_
   refine s_pu (p_elemA rfl rfl ?_ ?_) rfl ?_
   ·
    (first | assumption | omega)
   ·
    (first | assumption | omega)
   refine k_dx (hs.old hf) rfl (by omega) rfl ?_
   refine s_pu (p_eqI rfl rfl) rfl ?_
   refine s_pu (p_move rfl) rfl ?_
   refine WL_cutb 8 30 [0, 1] (fun b => True) ?_ ?_
   ·
    refine s_bool 22 rfl (fun hb22 => ?_) (fun hb22 => ?_)
    ·
     refine g_take rfl rfl rfl ?_
     refine s_pu (p_move rfl) rfl ?_
     refine g_take rfl rfl rfl ?_
     refine s_pu (p_addI rfl rfl ?_) rfl ?_
     ·
      omega
     refine g_take rfl rfl rfl ?_
     refine s_pu (p_move rfl) rfl ?_
     refine g_take rfl rfl rfl ?_
     refine s_pu (p_nilCheck rfl) rfl ?_
     refine g_take rfl rfl rfl ?_
     refine s_pu (p_field rfl) rfl ?_
     refine g_take rfl rfl rfl ?_
     refine k_dnd (hs.old hf) rfl rfl ?_
     refine g_take rfl rfl rfl ?_
     refine s_pu (p_eqI rfl rfl) rfl ?_
     refine s_pu (p_pickT rfl rfl) rfl ?_
     refine WL_th ⟨rfl, _, ?_, Ext.cons rfl (ext_kd rfl rfl (ext_kd rfl rfl ext_kn))⟩
     trivial
    ·
     refine g_skip rfl rfl rfl rfl rfl ?_
     refine g_skip rfl rfl rfl rfl rfl ?_
     refine g_skip rfl rfl rfl rfl rfl ?_
     refine g_skip rfl rfl rfl rfl rfl ?_
     refine g_skip rfl rfl rfl rfl rfl ?_
     refine g_skip rfl rfl rfl rfl rfl ?_
     refine g_skip rfl rfl rfl rfl rfl ?_
     refine s_pu (p_pickF rfl rfl) rfl ?_
     refine WL_th ⟨rfl, _, ?_, Ext.cons rfl (ext_kd rfl rfl (ext_kd rfl rfl ext_kn))⟩
     trivial
   ·
    intro b30 hb30
    refine WL_forget (Ext.cd 0 rfl (Ext.cd 1 rfl (Ext.cd 30 rfl (Ext.nil _)))) ?_
    show WL _ _ _ [] _ _ _
    refine WL_th ?_
    refine W_if rfl (fun h30 => ?_) (fun h30 => ?_)
    ·
     refine W_seq ?_
     refine W_sr ?_
     refine s_pu (p_move rfl) rfl ?_
     refine s_pu (p_nilCheck rfl) rfl ?_
     refine s_pu (p_field rfl) rfl ?_
     refine k_dtr (hs.old hf) rfl rfl ?_
     refine WL_th ?_
     refine W_if rfl (fun h34 => ?_) (fun h34 => ?_)
     ·
      refine W_sr ?_
      refine s_pu (p_assign rfl) rfl ?_
      refine WL_th ?_
      refine W_ret ?_
      refine th_ret ?_
      refine th_ret ?_
      refine ret_tmp (fn := Tryz.f157) rfl rfl ?_
      exact ⟨⟨_, rfl⟩, hs.keep0⟩
     ·
      refine W_skip_th ?_
      refine W_sr ?_
      refine s_pu (p_move rfl) rfl ?_
      refine s_pu (p_gtI rfl rfl) rfl ?_
      refine s_pu (p_move rfl) rfl ?_
      refine WL_cutb 11 48 [] (fun b => True) ?_ ?_
      ·
       refine s_bool 37 rfl (fun hb37 => ?_) (fun hb37 => ?_)
       ·
        refine g_take rfl rfl rfl ?_
        refine s_pu (p_move rfl) rfl ?_
        refine g_take rfl rfl rfl ?_
        refine s_pu (p_move rfl) rfl ?_
        refine g_take rfl rfl rfl ?_
        refine s_pu (p_subI rfl rfl ?_) rfl ?_
        ·
         omega
        refine g_take rfl rfl rfl ?_
        refine s_pu (p_nilCheck rfl) rfl ?_
        refine g_take rfl rfl rfl ?_
        refine s_pu (p_field rfl) rfl ?_
        refine g_take rfl rfl rfl ?_
        refine s_pu (p_elemA rfl rfl ?_ ?_) rfl ?_
        ·
         (have := of_decide_eq_true hb37; omega)
        ·
         omega
        refine g_take rfl rfl rfl ?_
        refine k_dx (hs.old hf) rfl (by omega) rfl ?_
        refine g_take rfl rfl rfl ?_
        refine s_pu (p_subW rfl rfl) rfl ?_
        refine g_take rfl rfl rfl ?_
        refine s_pu (p_rem rfl rfl ?_) rfl ?_
        ·
         decide
        refine g_take rfl rfl rfl ?_
        refine s_pu (p_neI rfl rfl) rfl ?_
        refine s_pu (p_pickT rfl rfl) rfl ?_
        refine WL_th ⟨rfl, _, ?_, Ext.cons rfl ext_kn⟩
        trivial
       ·
        refine g_skip rfl rfl rfl rfl rfl ?_
        refine g_skip rfl rfl rfl rfl rfl ?_
        refine g_skip rfl rfl rfl rfl rfl ?_
        refine g_skip rfl rfl rfl rfl rfl ?_
        refine g_skip rfl rfl rfl rfl rfl ?_
        refine g_skip rfl rfl rfl rfl rfl ?_
        refine g_skip rfl rfl rfl rfl rfl ?_
        refine g_skip rfl rfl rfl rfl rfl ?_
        refine g_skip rfl rfl rfl rfl rfl ?_
        refine g_skip rfl rfl rfl rfl rfl ?_
        refine s_pu (p_pickF rfl rfl) rfl ?_
        refine WL_th ⟨rfl, _, ?_, Ext.cons rfl ext_kn⟩
        trivial
      ·
       intro b48 hb48
       refine WL_forget (Ext.cd 48 rfl (Ext.nil _)) ?_
       show WL _ _ _ (_ :: _) _ _ _
       refine s_pu (p_assign rfl) rfl ?_
       refine WL_th ?_
       refine W_ret ?_
       refine th_ret ?_
       refine ret_tmp (fn := Tryz.f157) rfl rfl ?_
       exact ⟨⟨_, rfl⟩, hs.keep0⟩
    ·
     refine W_skip_th ?_
     refine W_sr ?_
     refine s_pu (p_move rfl) rfl ?_
     refine s_pu (p_move rfl) rfl ?_
     refine s_pu (p_nilCheck rfl) rfl ?_
     refine s_pu (p_field rfl) rfl ?_
     refine s_pu (p_elemA rfl rfl ?_ ?_) rfl ?_
     ·
      (first | assumption | omega)
     ·
      (first | assumption | omega)
     refine k_dx (hs.old hf) rfl (by omega) rfl ?_
     refine s_pu (p_geI rfl rfl) rfl ?_
     refine s_pu (p_assign rfl) rfl ?_
     refine WL_th ?_
     refine W_ret ?_
     refine ret_tmp (fn := Tryz.f157) rfl rfl ?_
     exact ⟨⟨_, rfl⟩, hs.keep0⟩
theorem c_RoundedInteger (db : Nat) (x : Nat → Int) (nd : Nat) (dp : Int) (ng tr : Bool) (h2 : nd ≤ 800) (hd : -100000 ≤ dp) (wI : World) (hf : wI.heap[db]? = some (.cells (mkA 804 (dC x (nd : Nat) dp ng tr)) 268 (0, 0))) : Quiet Tryz.prog 150 [.pointer (some ⟨db, 0, none⟩)] wI fun v => ∃ n : Int, v = .int .u64 n := by
 have hs := St.startNone wI
 refine calls_W (args := [_]) Tryz.func150 rfl Tryz.ntmps150 rfl ?_
 refine W_sr ?_
 refine s_pu (p_assign rfl) rfl ?_
 refine WL_th ?_
 refine W_seq ?_
 refine W_sr ?_
 refine s_pu (p_move rfl) rfl ?_
 refine s_pu (p_nilCheck rfl) rfl ?_
 refine s_pu (p_field rfl) rfl ?_
 refine k_ddp (hs.old hf) rfl rfl ?_
 refine s_pu (p_gtI rfl rfl) rfl ?_
 refine WL_th ?_
 refine W_if rfl (fun h9 => ?_) (fun h9 => ?_)
 ·
  refine W_sr ?_
  refine s_pu (p_assign rfl) rfl ?_
  refine WL_th ?_
  refine W_ret ?_
  refine th_ret ?_
  refine ret_tmp (fn := Tryz.f150) rfl rfl ?_
  exact ⟨⟨_, rfl⟩, hs.keep0⟩
 ·
  have hd20 : dp ≤ 20 := by have := of_decide_eq_false h9; omega
  refine W_skip_th ?_
  refine W_sr ?_
  refine s_pu (p_assign rfl) rfl ?_
  refine WL_th ?_
  refine W_sr ?_
  refine s_pu (p_assign rfl) rfl ?_
  refine WL_th ?_
  refine W_seq ?_
  refine W_sr ?_
  refine s_pu (p_assign rfl) rfl ?_
  refine WL_th ?_
  refine W_block ?_
  refine W_loop (α := Nat × Int) (fun y => (upd (upd (upd emp 4 (.int .u64 y.2)) 3 (.int .i64 y.1)) 0 (.pointer (some ⟨db, 0, none⟩)))) (fun y w => y.1 ≤ 20 ∧ St wI (fun _ => False) w []) (fun y => 20 - y.1) (0, 0) (Ext.cons rfl (Ext.cons rfl (Ext.cons rfl (Ext.nil _)))) ⟨by decide, hs⟩ (fun y w hx => ?_)
  obtain ⟨hy, hs⟩ := hx
  obtain ⟨i, n⟩ := y
  simp only at hy hs
  refine W_forget (e' := (upd (upd (upd emp 0 (.pointer (some ⟨db, 0, none⟩))) 3 (.int .i64 i)) 4 (.int .u64 n))) (Ext.cons rfl (Ext.cons rfl (Ext.cons rfl (Ext.nil _)))) ?_
  refine W_seq ?_
  refine W_sr ?_
  refine s_pu (p_move rfl) rfl ?_
  refine s_pu (p_move rfl) rfl ?_
  refine s_pu (p_nilCheck rfl) rfl ?_
  refine s_pu (p_field rfl) rfl ?_
  refine k_ddp (hs.old hf) rfl rfl ?_
  refine s_pu (p_ltI rfl rfl) rfl ?_
  refine s_pu (p_move rfl) rfl ?_
  refine WL_cutb 7 23 [0, 3, 4] (fun b => b = true → (i : Int) < dp ∧ i < nd) ?_ ?_
  ·
   refine s_bool 16 rfl (fun hb16 => ?_) (fun hb16 => ?_)
   ·
    refine g_take rfl rfl rfl ?_
    refine s_pu (p_move rfl) rfl ?_
    refine g_take rfl rfl rfl ?_
    refine s_pu (p_move rfl) rfl ?_
    refine g_take rfl rfl rfl ?_
    refine s_pu (p_nilCheck rfl) rfl ?_
    refine g_take rfl rfl rfl ?_
    refine s_pu (p_field rfl) rfl ?_
    refine g_take rfl rfl rfl ?_
    refine k_dnd (hs.old hf) rfl rfl ?_
    refine g_take rfl rfl rfl ?_
    refine s_pu (p_ltI rfl rfl) rfl ?_
    refine s_pu (p_pickT rfl rfl) rfl ?_
    refine WL_th ⟨rfl, _, ?_, Ext.cons rfl (ext_kd rfl rfl (ext_kd rfl rfl (ext_kd rfl rfl ext_kn)))⟩
    exact fun h => ⟨of_decide_eq_true hb16, by have := of_decide_eq_true h; omega⟩
   ·
    refine g_skip rfl rfl rfl rfl rfl ?_
    refine g_skip rfl rfl rfl rfl rfl ?_
    refine g_skip rfl rfl rfl rfl rfl ?_
    refine g_skip rfl rfl rfl rfl rfl ?_
    refine g_skip rfl rfl rfl rfl rfl ?_
    refine g_skip rfl rfl rfl rfl rfl ?_
    refine s_pu (p_pickF rfl rfl) rfl ?_
    refine WL_th ⟨rfl, _, ?_, Ext.cons rfl (ext_kd rfl rfl (ext_kd rfl rfl (ext_kd rfl rfl ext_kn)))⟩
    exact fun h => by cases h
  ·
   intro b23 hb23
   refine WL_forget (Ext.cd 0 rfl (Ext.cd 3 rfl (Ext.cd 4 rfl (Ext.cd 23 rfl (Ext.nil _))))) ?_
   show WL _ _ _ [] _ _ _
   refine WL_th ?_
   refine W_if rfl (fun h23 => ?_) (fun h23 => ?_)
   ·
    obtain ⟨hi1, hi2⟩ := hb23 h23
    refine W_skip_th ?_
    refine W_seq ?_
    refine W_block ?_
    refine W_reg ?_
    refine s_pu (p_move rfl) rfl ?_
    refine s_pu (p_mulW rfl rfl) rfl ?_
    refine s_pu (p_move rfl) rfl ?_
    refine s_pu (p_move rfl) rfl ?_
    refine s_pu (p_nilCheck rfl) rfl ?_
    refine s_pu (p_field rfl) rfl ?_
    refine s_pu (p_elemA rfl rfl ?_ ?_) rfl ?_
    ·
     (first | assumption | omega)
    ·
     (first | assumption | omega)
    refine k_dx (hs.old hf) rfl (by omega) rfl ?_
    refine s_pu (p_subW rfl rfl) rfl ?_
    refine s_pu (p_conv rfl) rfl ?_
    refine s_pu (p_addW rfl rfl) rfl ?_
    generalize IntKind.u64.wrap (_ + _) = m36
    refine s_pu (p_assign rfl) rfl ?_
    refine WL_nil ?_
    show W _ _ _ _ _ _
    refine W_forget (Ext.cd 0 rfl (Ext.cd 3 rfl (Ext.cd 4 rfl (Ext.nil _)))) ?_
    refine W_reg ?_
    refine s_pu (p_move rfl) rfl ?_
    refine s_pu (p_addI rfl rfl ?_) rfl ?_
    ·
     omega
    refine s_pu (p_assign rfl) rfl ?_
    refine WL_th ?_
    refine ⟨(i + 1, m36), (Ext.cons rfl (Ext.cons (by show some (Value.int .i64 ((i : Int) + 1)) = _; simp) (Ext.cons rfl (Ext.nil _)))), ⟨by omega, hs⟩, by simp only; omega⟩
   ·
    refine W_exit ?_
    show W _ _ _ _ _ _
    refine W_seq ?_
    refine W_block ?_
    refine W_loop (α := Nat × Int) (fun y => (upd (upd (upd emp 4 (.int .u64 y.2)) 3 (.int .i64 y.1)) 0 (.pointer (some ⟨db, 0, none⟩)))) (fun y w => y.1 ≤ 20 ∧ St wI (fun _ => False) w []) (fun y => 20 - y.1) (i, n) (Ext.cons rfl (Ext.cons rfl (Ext.cons rfl (Ext.nil _)))) ⟨hy, hs⟩ (fun y w hx => ?_)
    clear hy
    obtain ⟨hy, hs⟩ := hx
    obtain ⟨i, n⟩ := y
    simp only at hy hs
    refine W_forget (e' := (upd (upd (upd emp 0 (.pointer (some ⟨db, 0, none⟩))) 3 (.int .i64 i)) 4 (.int .u64 n))) (Ext.cons rfl (Ext.cons rfl (Ext.cons rfl (Ext.nil _)))) ?_
    refine W_seq ?_
    refine W_sr ?_
    refine s_pu (p_move rfl) rfl ?_
    refine s_pu (p_move rfl) rfl ?_
    refine s_pu (p_nilCheck rfl) rfl ?_
    refine s_pu (p_field rfl) rfl ?_
    refine k_ddp (hs.old hf) rfl rfl ?_
    refine s_pu (p_ltI rfl rfl) rfl ?_
    refine WL_th ?_
    refine W_if rfl (fun h42 => ?_) (fun h42 => ?_)
    ·
     have hi1 := of_decide_eq_true h42
     refine W_skip_th ?_
     refine W_seq ?_
     refine W_block ?_
     refine W_reg ?_
     refine s_pu (p_move rfl) rfl ?_
     refine s_pu (p_mulW rfl rfl) rfl ?_
     generalize IntKind.u64.wrap _ = m46
     refine s_pu (p_assign rfl) rfl ?_
     refine WL_nil ?_
     show W _ _ _ _ _ _
     refine W_reg ?_
     refine s_pu (p_move rfl) rfl ?_
     refine s_pu (p_addI rfl rfl ?_) rfl ?_
     ·
      omega
     refine s_pu (p_assign rfl) rfl ?_
     refine WL_th ?_
     refine ⟨(i + 1, m46), (Ext.cons rfl (Ext.cons (by show some (Value.int .i64 ((i : Int) + 1)) = _; simp) (Ext.cons rfl (Ext.nil _)))), ⟨by omega, hs⟩, by simp only; omega⟩
    ·
     refine W_exit ?_
     show W _ _ _ _ _ _
     refine W_seq ?_
     refine W_sr ?_
     refine s_pu (p_move rfl) rfl ?_
     refine s_pu (p_move rfl) rfl ?_
     refine s_pu (p_nilCheck rfl) rfl ?_
     refine s_pu (p_field rfl) rfl ?_
     refine k_ddp (hs.old hf) rfl rfl ?_
     refine k_quiet (c_shouldRoundUp db x nd dp ng tr _ h2 _ (hs.old hf)) hs (.cons rfl (.cons rfl .nil)) rfl ?_
     rintro _ _ ⟨b52, rfl⟩ hs _
     refine WL_th ?_
     refine W_forget (Ext.cd 4 rfl (Ext.cd 52 rfl (Ext.nil _))) ?_
     refine W_if rfl (fun h52 => ?_) (fun h52 => ?_)
     ·
      refine W_reg ?_
      refine s_pu (p_move rfl) rfl ?_
      refine s_pu (p_addW rfl rfl) rfl ?_
      refine s_pu (p_assign rfl) rfl ?_
      refine WL_th ?_
      refine W_sr ?_
      refine s_pu (p_move rfl) rfl ?_
      refine s_pu (p_assign rfl) rfl ?_
      refine WL_th ?_
      refine W_ret ?_
      refine ret_tmp (fn := Tryz.f150) rfl rfl ?_
      exact ⟨⟨_, rfl⟩, hs.keep0⟩
     ·
      refine W_skip_th ?_
      refine W_sr ?_
      refine s_pu (p_move rfl) rfl ?_
      refine s_pu (p_assign rfl) rfl ?_
      refine WL_th ?_
      refine W_ret ?_
      refine ret_tmp (fn := Tryz.f150) rfl rfl ?_
      exact ⟨⟨_, rfl⟩, hs.keep0⟩
end Go.Proofs.YtmalghopogngoaaGreatDoor
set_option linter.unusedVariables false
namespace Go.Proofs.YtmalghopogngoaaGreatDoor
/-- The first digits that a shift to the right takes: r of them make n. -/
structure Taken (k d0 r n : Nat) : Prop where
 r1 : 1 ≤ r
 lo : 2 ^ k ≤ n
 hi : n < 10 * 2 ^ k
 ge : 10 ^ (r - 1) ≤ n
 lt : n < 10 ^ r
 one : r = 1 → n = d0
theorem p2 (k : Nat) : 0 < (2 : Nat) ^ k := Nat.pow_pos (by decide)
theorem Taken.dig {k d0 r n : Nat} (h : Taken k d0 r n) : 1 ≤ n / 2 ^ k ∧ n / 2 ^ k ≤ 9 := by
 constructor
 ·
  exact (Nat.le_div_iff_mul_le (p2 k)).2 (by have := h.lo; omega)
 ·
  have := (Nat.div_lt_iff_lt_mul (p2 k)).2 h.hi
  omega
theorem Taken.few {k d0 r n : Nat} (h : Taken k d0 r n) (hk : k ≤ 27) : r ≤ 10 := by
 apply Nat.le_of_not_lt
 intro hr
 have h1 : 10 ^ 10 ≤ 10 ^ (r - 1) := Nat.pow_le_pow_right (by decide) (by omega)
 have h2 : 2 ^ k ≤ 2 ^ 27 := Nat.pow_le_pow_right (by decide) hk
 have h3 := h.ge
 have h4 := h.hi
 have e1 : (10 : Nat) ^ 10 = 10000000000 := by decide
 have e2 : (2 : Nat) ^ 27 = 134217728 := by decide
 omega
/-- Points count 14, the first digit counts itself: a shift by k lowers the sum by k at least. -/
theorem Taken.falls {k d0 r n : Nat} (h : Taken k d0 r n) (hk1 : 1 ≤ k) (hk : k ≤ 27) (hd : d0 ≤ 9) (hd1 : 1 ≤ d0) : k + n / 2 ^ k ≤ 14 * (r - 1) + d0 := by
 have hq := h.dig
 have hlt := h.lt
 have hlo := h.lo
 have big : ∀ a b : Nat, a ≤ b → 2 ^ a ≤ 2 ^ b := fun a b hab => Nat.pow_le_pow_right (by decide) hab
 by_cases hr1 : r = 1
 ·
  have hn := h.one hr1
  subst hr1
  subst hn
  have hk3 : k ≤ 3 := Nat.le_of_not_lt fun hk4 => by
   have := big 4 k hk4
   have e : (2 : Nat) ^ 4 = 16 := by decide
   omega
  have hk' : k = 1 ∨ k = 2 ∨ k = 3 := by omega
  rcases hk' with rfl | rfl | rfl <;> omega
 ·
  by_cases hr2 : r = 2
  ·
   subst hr2
   have hk6 : k ≤ 6 := Nat.le_of_not_lt fun hk7 => by
    have := big 7 k hk7
    have e : (2 : Nat) ^ 7 = 128 := by decide
    have e2 : (10 : Nat) ^ 2 = 100 := by decide
    omega
   omega
  ·
   by_cases hr3 : r = 3
   ·
    subst hr3
    have hk9 : k ≤ 9 := Nat.le_of_not_lt fun hk7 => by
     have := big 10 k hk7
     have e : (2 : Nat) ^ 10 = 1024 := by decide
     have e2 : (10 : Nat) ^ 3 = 1000 := by decide
     omega
    omega
   ·
    have := h.r1
    omega
/-- What is left over of a number, ten times: it is divided by 2 once more. -/
theorem left_over {n k j : Nat} (hj : 2 ^ j ∣ n) (hjk : j < k) : 2 ^ (j + 1) ∣ n % 2 ^ k * 10 := by
 have h1 : 2 ^ j ∣ n % 2 ^ k := (Nat.dvd_mod_iff (Nat.pow_dvd_pow 2 (Nat.le_of_lt hjk))).2 hj
 rw [Nat.pow_succ]
 exact Nat.mul_dvd_mul h1 (by decide)
theorem left_none {n k : Nat} (hj : 2 ^ k ∣ n) : n % 2 ^ k * 10 = 0 := by
 rw [Nat.mod_eq_zero_of_dvd hj, Nat.zero_mul]
theorem mod_ten {n k c : Nat} (hc : c ≤ 9) : n % 2 ^ k * 10 + c < 10 * 2 ^ k := by
 have := Nat.mod_lt n (p2 k)
 omega
end Go.Proofs.YtmalghopogngoaaGreatDoor
