/- A part of the proof that the parent of a node below the root is the node right above it (laws.FnParentTree), for all inputs of bulk at most 1048576 and the listed variables as the text lays them: part 10 of 16. -/
import Derived.Test.YtmalghopogngoaaGreatDoorK9
import Derived.MakeChecks
set_option linter.unusedVariables false
set_option linter.unusedSimpArgs false
set_option maxRecDepth 4000
namespace Go.Proofs.YtmalghopogngoaaGreatDoor
open Go Go.RowKit MW
theorem c_parseFloatPrefix (s : ByteArray) (o p : Nat) (hF : FT s o p) (wI : World) (hG : GP wI) : Quiet Tryz.prog 112 [.string s, .int .i64 64] wI fun v => ∃ n, v = .tuple #[.float .f64 n, .int .i64 s.size, .nilIface] := by
 have hs := St.startNone wI
 refine calls_W (args := [_, _]) Tryz.func112 rfl Tryz.ntmps112 rfl ?_
 refine W_sr ?_
 refine s_pu (p_assign rfl) rfl ?_
 refine s_pu (p_assign rfl) rfl ?_
 refine s_pu (p_assign rfl) rfl ?_
 refine WL_th ?_
 refine W_seq ?_
 refine W_sr ?_
 refine s_pu (p_move rfl) rfl ?_
 refine s_pu (p_eqI rfl rfl) rfl ?_
 refine WL_th ?_
 refine W_false rfl ?_
 refine W_skip_th ?_
 refine W_sr ?_
 refine s_pu (p_move rfl) rfl ?_
 refine k_quiet (c_atof64 s o p hF _ (hG.keep hs.keep.sames)) hs (.cons rfl .nil) rfl ?_
 rintro _ _ ⟨n, rfl⟩ hs _
 refine s_pu (p_extract rfl rfl) rfl ?_
 refine s_pu (p_extract rfl rfl) rfl ?_
 refine s_pu (p_extract rfl rfl) rfl ?_
 refine s_pu (p_assign rfl) rfl ?_
 refine s_pu (p_assign rfl) rfl ?_
 refine s_pu (p_assign rfl) rfl ?_
 refine WL_th ?_
 refine W_ret ?_
 refine ret_tmp3 (fn := Tryz.f112) rfl rfl rfl rfl ?_
 exact ⟨⟨_, rfl⟩, hs.keep0⟩
theorem c_ParseFloat108 (s : ByteArray) (o p : Nat) (hF : FT s o p) (wI : World) (hG : GP wI) : Quiet Tryz.prog 108 [.string s, .int .i64 64] wI fun v => ∃ n, v = .tuple #[.float .f64 n, .nilIface] := by
 have hs := St.startNone wI
 refine calls_W (args := [_, _]) Tryz.func108 rfl Tryz.ntmps108 rfl ?_
 refine W_sr ?_
 refine s_pu (p_assign rfl) rfl ?_
 refine s_pu (p_assign rfl) rfl ?_
 refine WL_th ?_
 refine W_sr ?_
 refine s_pu (p_move rfl) rfl ?_
 refine s_pu (p_move rfl) rfl ?_
 refine k_quiet (c_parseFloatPrefix s o p hF _ (hG.keep hs.keep.sames)) hs (.cons rfl (.cons rfl .nil)) rfl ?_
 rintro _ _ ⟨n, rfl⟩ hs _
 refine s_pu (p_move rfl) rfl ?_
 refine s_pu (p_extract rfl rfl) rfl ?_
 refine s_pu (p_extract rfl rfl) rfl ?_
 refine s_pu (p_extract rfl rfl) rfl ?_
 refine s_pu (p_assign rfl) rfl ?_
 refine s_pu (p_assign rfl) rfl ?_
 refine s_pu (p_assign rfl) rfl ?_
 refine WL_th ?_
 refine W_seq ?_
 refine W_sr ?_
 refine s_pu (p_move rfl) rfl ?_
 refine s_pu (p_move rfl) rfl ?_
 refine s_pu (p_lenS (by kernel_rfl) rfl) rfl ?_
 refine s_pu (p_neI rfl rfl) rfl ?_
 refine WL_th ?_
 refine W_forget (Ext.cd 6 rfl (Ext.cd 8 rfl (Ext.cd 19 rfl (Ext.nil _)))) ?_
 refine W_if rfl (fun h0 => ?_) (fun h0 => ?_)
 ·
  exfalso
  simp at h0
 ·
  refine W_skip_th ?_
  refine W_sr ?_
  refine s_pu (p_move rfl) rfl ?_
  refine s_pu (p_move rfl) rfl ?_
  refine s_pu (p_assign rfl) rfl ?_
  refine s_pu (p_assign rfl) rfl ?_
  refine WL_th ?_
  refine W_ret ?_
  refine ret_tmp2 (fn := Tryz.f108) rfl rfl rfl ?_
  exact ⟨⟨_, rfl⟩, hs.keep0⟩
theorem c_ParseFloat (s : ByteArray) (o p : Nat) (hF : FT s o p) (wI : World) (hG : GP wI) : Quiet Tryz.prog 98 [.string s, .int .i64 64] wI fun v => ∃ n, v = .tuple #[.float .f64 n, .nilIface] := by
 have hs := St.startNone wI
 refine calls_W (args := [_, _]) Tryz.func98 rfl Tryz.ntmps98 rfl ?_
 refine W_sr ?_
 refine s_pu (p_assign rfl) rfl ?_
 refine s_pu (p_assign rfl) rfl ?_
 refine WL_th ?_
 refine W_sr ?_
 refine s_pu (p_move rfl) rfl ?_
 refine s_pu (p_move rfl) rfl ?_
 refine k_quiet (c_ParseFloat108 s o p hF _ (hG.keep hs.keep.sames)) hs (.cons rfl (.cons rfl .nil)) rfl ?_
 rintro _ _ ⟨n, rfl⟩ hs _
 refine s_pu (p_move rfl) rfl ?_
 refine s_pu (p_extract rfl rfl) rfl ?_
 refine s_pu (p_extract rfl rfl) rfl ?_
 refine s_pu (p_assign rfl) rfl ?_
 refine s_pu (p_assign rfl) rfl ?_
 refine WL_th ?_
 refine W_seq ?_
 refine W_sr ?_
 refine s_pu (p_move rfl) rfl ?_
 refine s_pu (p_neNN rfl) rfl ?_
 refine WL_th ?_
 refine W_false rfl ?_
 refine W_skip_th ?_
 refine W_forget (Ext.cd 6 rfl (Ext.nil _)) ?_
 refine W_sr ?_
 refine s_pu (p_move rfl) rfl ?_
 refine s_pu (p_assign rfl) rfl ?_
 refine s_pu (p_assign rfl) rfl ?_
 refine WL_th ?_
 refine W_ret ?_
 refine ret_tmp2 (fn := Tryz.f98) rfl rfl rfl ?_
 exact ⟨⟨_, rfl⟩, hs.keep0⟩
/-- A number's text: o signs, p digits, and then nothing, or a point and digits. -/
structure NB (s : ByteArray) (o p : Nat) : Prop where
 ho : o ≤ 1
 hsg : o = 1 → bt s 0 = 45 ∨ bt s 0 = 43
 hp : 1 ≤ p
 hp18 : p ≤ 18
 hle : o + p ≤ s.size
 hmax : s.size ≤ 26
 hdot : o + p < s.size → bt s (o + p) = 46
 hdig : ∀ i, o ≤ i → i < s.size → i ≠ o + p → dig (bt s i)
 lead : bt s o = 48 → p = 1
theorem NB.of {s : ByteArray} (h : NumT s) : ∃ o p, NB s o p ∧ (s.size = o + p ∨ o + p + 2 ≤ s.size) := by
 obtain ⟨o, p, h1, h2, h3, h4, h5, h6, h7, h8⟩ := h
 refine ⟨o, p, ⟨h1, h2, h3, h4, h5, by omega, fun h => ?_, fun i hi1 hi2 hi3 => ?_, h7⟩, ?_⟩
 ·
  rcases h8 with h8 | h8
  ·
   omega
  ·
   exact h8.1
 ·
  by_cases hi : i < o + p
  ·
   have := h6 (i - o) (by omega)
   rwa [show o + (i - o) = i by omega] at this
  ·
   rcases h8 with h8 | h8
   ·
    omega
   ·
    exact h8.2.2.2 i (by omega) hi2
 ·
  rcases h8 with h8 | h8
  ·
   exact .inl h8
  ·
   exact .inr h8.2.1
theorem NB.d0 {s : ByteArray} {o p : Nat} (h : NB s o p) : dig (bt s o) := h.hdig o (Nat.le_refl _) (by have := h.hp; have := h.hle; omega) (by have := h.hp; omega)
theorem NB.body {s u : ByteArray} {o p : Nat} (h : NB s o p) (h1 : u.size + o = s.size) (h2 : ∀ i, i < u.size → bt u i = bt s (o + i)) : NB u 0 p := by
 have hp := h.hp
 have hle := h.hle
 have hmax := h.hmax
 refine ⟨by decide, fun h => absurd h (by decide), hp, h.hp18, by omega, by omega, fun hl => ?_, fun i _ hi2 hi3 => ?_, fun h0 => ?_⟩
 ·
  rw [h2 _ (by omega)]
  have := h.hdot (by omega)
  rwa [Nat.zero_add]
 ·
  rw [h2 _ hi2]
  exact h.hdig _ (by omega) (by omega) (by omega)
 ·
  rw [h2 _ (by omega)] at h0
  exact h.lead h0
theorem Pre.at0 {c : UInt8} {s : ByteArray} (h : Pre ⟨#[c]⟩ s) : bt s 0 = c.toNat := h.2 0 Nat.zero_lt_one
theorem pre_of {c : UInt8} {s : ByteArray} (h1 : 1 ≤ s.size) (h : bt s 0 = c.toNat) : Pre ⟨#[c]⟩ s := ⟨h1, fun i hi => by
 obtain rfl : i = 0 := Nat.lt_one_iff.1 hi
 exact h⟩
theorem NB.trim {s u v : ByteArray} {o p : Nat} (h : NB s o p) (hu : (Pre ⟨#[43]⟩ s ∧ u.size + (⟨#[43]⟩ : ByteArray).size = s.size ∧ ∀ i, i < u.size → bt u i = bt s ((⟨#[43]⟩ : ByteArray).size + i)) ∨ (¬ Pre ⟨#[43]⟩ s ∧ u = s))
  (hv : (Pre ⟨#[45]⟩ u ∧ v.size + (⟨#[45]⟩ : ByteArray).size = u.size ∧ ∀ i, i < v.size → bt v i = bt u ((⟨#[45]⟩ : ByteArray).size + i)) ∨ (¬ Pre ⟨#[45]⟩ u ∧ v = u)) : NB v 0 p ∧ v.size + o = s.size ∧ ∀ i, i < v.size → bt v i = bt s (o + i) := by
 have hd := h.d0
 have hp := h.hp
 have hle := h.hle
 unfold dig at hd
 have key : v.size + o = s.size ∧ ∀ i, i < v.size → bt v i = bt s (o + i) := by
  rcases (show o = 0 ∨ o = 1 by have := h.ho; omega) with rfl | rfl
  ·
   rcases hu with ⟨hP, _, _⟩ | ⟨_, rfl⟩
   ·
    have : bt s 0 = 43 := hP.at0
    omega
   ·
    rcases hv with ⟨hP, _, _⟩ | ⟨_, rfl⟩
    ·
     have : bt u 0 = 45 := hP.at0
     omega
    ·
     exact ⟨rfl, fun i _ => by rw [Nat.zero_add]⟩
  ·
   rcases h.hsg rfl with hs | hs
   ·
    rcases hu with ⟨hP, _, _⟩ | ⟨_, rfl⟩
    ·
     have : bt s 0 = 43 := hP.at0
     omega
    ·
     rcases hv with ⟨_, h1, h2⟩ | ⟨hn, rfl⟩
     ·
      exact ⟨h1, h2⟩
     ·
      exact absurd (pre_of (by omega) hs) hn
   ·
    rcases hu with ⟨_, h1, h2⟩ | ⟨hn, rfl⟩
    ·
     rcases hv with ⟨hP, _, _⟩ | ⟨_, rfl⟩
     ·
      have h3 : bt u 0 = 45 := hP.at0
      have h1' : u.size + 1 = s.size := h1
      have h4 := h2 0 (by omega)
      have h5 : bt u 0 = bt s 1 := h4
      omega
     ·
      exact ⟨h1, h2⟩
    ·
     exact absurd (pre_of (by omega) hs) hn
 exact ⟨h.body key.1 key.2, key.1, key.2⟩
theorem NB.no95 {u : ByteArray} {p : Nat} (h : NB u 0 p) (i : Nat) (hi : i < u.size) : bt u i ≠ bt ⟨#[95]⟩ 0 := by
 show bt u i ≠ 95
 by_cases he : i = 0 + p
 ·
  have := h.hdot (by omega)
  rw [he]
  omega
 ·
  have := h.hdig i (Nat.zero_le _) hi he
  unfold dig at this
  omega
theorem NB.no2 {u : ByteArray} {p : Nat} (h : NB u 0 p) {c : UInt8} (hc : c.toNat ≠ 46) (hP : Pre ⟨#[48, c]⟩ u) : False := by
 have h0 : bt u 0 = 48 := hP.2 0 (by decide : 0 < 2)
 have h1 : bt u 1 = c.toNat := hP.2 1 (by decide : 1 < 2)
 have hp := h.lead h0
 subst hp
 have h2 : 2 ≤ u.size := hP.1
 have := h.hdot (by omega)
 rw [Nat.zero_add] at this
 omega
theorem cnt_zero {s : ByteArray} {c : Nat} : ∀ n, (∀ i, i < n → bt s i ≠ c) → cnt s c n = 0
 | 0, _ => rfl
 | n + 1, h => by
  unfold cnt
  rw [if_neg (h n (by omega))]
  exact cnt_zero n fun i hi => h i (by omega)
theorem cnt_one {s : ByteArray} {c j : Nat} (hj : bt s j = c) : ∀ n, (∀ i, i < n → i ≠ j → bt s i ≠ c) → cnt s c n = if j < n then 1 else 0
 | 0, _ => rfl
 | n + 1, h => by
  have ih := cnt_one hj n fun i hi => h i (by omega)
  unfold cnt
  by_cases hn : n = j
  ·
   subst hn
   rw [if_pos hj, ih, if_neg (by omega), if_pos (by omega)]
  ·
   rw [if_neg (h n (by omega) hn), ih]
   by_cases hl : j < n
   ·
    rw [if_pos hl, if_pos (by omega)]
   ·
    rw [if_neg hl, if_neg (by omega)]
theorem NB.ne46 {s : ByteArray} {o p : Nat} (h : NB s o p) {i : Nat} (hi : i < s.size) (hne : i ≠ o + p) : bt s i ≠ 46 := by
 by_cases ho : o ≤ i
 ·
  have := h.hdig i ho hi hne
  unfold dig at this
  omega
 ·
  have h1 := h.ho
  obtain rfl : i = 0 := by omega
  rcases h.hsg (by omega) with h | h <;> omega
theorem NB.dots {s : ByteArray} {o p k : Nat} (h : NB s o p) (hk : (s.size = o + p ∧ k = 0) ∨ (o + p + 2 ≤ s.size ∧ k = 1)) (wI : World) : Quiet Tryz.prog 95 [.string s, .string ⟨#[46]⟩] wI fun v => v = .int .i64 (k : Int) := by
 have hm := h.hmax
 have hc := c_zzCount s ⟨#[46]⟩ rfl (by omega) wI
 rw [show bt ⟨#[46]⟩ 0 = 46 from rfl] at hc
 rcases hk with ⟨h1, rfl⟩ | ⟨h1, rfl⟩
 ·
  rwa [cnt_zero _ fun i hi => h.ne46 hi (by omega)] at hc
 ·
  rwa [cnt_one (h.hdot (by omega)) _ fun i hi hne => h.ne46 hi hne, if_pos (by omega)] at hc
/-- A sign ahead of a text, or none. -/
def XB (x u : ByteArray) (m : Nat) : Prop := m ≤ 1 ∧ x.size = m + u.size ∧ (m = 1 → bt x 0 = 45) ∧ ∀ i, i < u.size → bt x (m + i) = bt u i
theorem XB.zero (u : ByteArray) : XB u u 0 := ⟨by decide, by omega, fun h => absurd h (by decide), fun i _ => by rw [Nat.zero_add]⟩
theorem XB.one (u : ByteArray) : XB (⟨#[45]⟩ ++ u) u 1 := ⟨by decide, by rw [ByteArray.size_append]; rfl, fun _ => by unfold bt; rw [ByteArray.data_append, Array.getElem?_append_left (by decide)]; rfl, fun i hi => by
 unfold bt
 rw [ByteArray.data_append, Array.getElem?_append_right (by simp)]
 simp⟩
theorem XB.ft {x u : ByteArray} {m p : Nat} (h : XB x u m) (hU : NB u 0 p) (hf : p + 2 ≤ u.size) : FT x m p := by
 obtain ⟨h1, h2, h3, h4⟩ := h
 have hm := hU.hmax
 refine ⟨h1, h3, hU.hp, by omega, by omega, ?_, fun i hi1 hi2 hi3 => ?_⟩
 ·
  rw [h4 p (by omega)]
  have := hU.hdot (by omega)
  rwa [Nat.zero_add] at this
 ·
  have := h4 (i - m) (by omega)
  rw [show m + (i - m) = i by omega] at this
  rw [this]
  exact hU.hdig _ (Nat.zero_le _) (by omega) (by omega)
theorem kd_dec : ((⟨#[100, 101, 99, 105, 109, 97, 108]⟩ : ByteArray).toList == (⟨#[102, 108, 111, 97, 116]⟩ : ByteArray).toList) = false := by rw [ByteArray.toList_eq, ByteArray.toList_eq]; rfl
theorem kd_flo : ((⟨#[102, 108, 111, 97, 116]⟩ : ByteArray).toList == (⟨#[102, 108, 111, 97, 116]⟩ : ByteArray).toList) = true := beq_self_eq_true _
def NumR (v : Value) (G : List Assn) : Prop := ∃ nb k U u tx, v = .tuple #[.pointer (some ⟨nb, 0, none⟩), .nilIface] ∧ G = [pt nb 196 3 (cl [.string k, .iface U u, .string tx])] ∧ ((U = 157 ∧ ∃ n, u = .float .f64 n) ∨ Nat.beq U 157 = false)
theorem c_toNumber0 (s : ByteArray) (o p : Nat) (hN : NB s o p) (hK : s.size = o + p) (wI : World) (hG : GP wI) : Fresh Tryz.prog 85 [.string s] wI NumR := by
 have hs := St.startNone wI
 have ho := hN.ho
 have hp1 := hN.hp
 have hp18 := hN.hp18
 have hle := hN.hle
 have hmax := hN.hmax
 refine calls_W (args := [_]) Tryz.func85 rfl Tryz.ntmps85 rfl ?_
 refine W_sr ?_
 refine s_pu (p_assign rfl) rfl ?_
 refine s_pu (p_assign rfl) rfl ?_
 refine WL_th ?_
 refine W_seq ?_
 refine W_sr ?_
 refine s_pu (p_move rfl) rfl ?_
 refine s_pu (p_lenS (by kernel_rfl) rfl) rfl ?_
 refine s_pu (p_eqI rfl rfl) rfl ?_
 refine WL_th ?_
 refine W_if rfl (fun h0 => ?_) (fun h0 => ?_)
 ·
  exfalso
  have h1 := eq_of_beq h0
  omega
 ·
  refine W_skip_th ?_
  refine W_seq ?_
  refine W_sr ?_
  refine s_pu (p_move rfl) rfl ?_
  refine k_quiet (c_HasPrefix s ⟨#[95]⟩ _) hs (.cons rfl (.cons rfl .nil)) rfl ?_
  rintro _ _ ⟨b21, rfl, hb211, hb212⟩ hs _
  refine WL_th ?_
  refine W_if rfl (fun h21 => ?_) (fun h21 => ?_)
  ·
   exfalso
   have h1 : bt s 0 = 95 := (hb211 h21).at0
   have h2 := hN.d0
   unfold dig at h2
   rcases (show o = 0 ∨ o = 1 by omega) with rfl | rfl
   ·
    omega
   ·
    rcases hN.hsg rfl with h | h <;> omega
  ·
   refine W_skip_th ?_
   refine W_sr ?_
   refine s_pu (p_move rfl) rfl ?_
   refine k_quiet (hN.dots (k := 0) (.inl ⟨hK, rfl⟩) _) hs (.cons rfl (.cons rfl .nil)) rfl ?_
   rintro _ _ rfl hs _
   refine s_pu (p_assign rfl) rfl ?_
   refine WL_th ?_
   refine W_seq ?_
   refine W_sr ?_
   refine s_pu (p_move rfl) rfl ?_
   refine s_pu (p_gtI rfl rfl) rfl ?_
   refine WL_th ?_
   refine W_if rfl (fun h1 => ?_) (fun h1 => ?_)
   ·
    exfalso
    have := of_decide_eq_true h1
    omega
   ·
    refine W_skip_th ?_
    refine W_forget (Ext.cd 0 rfl (Ext.cd 4 rfl (Ext.nil _))) ?_
    refine W_sr ?_
    refine s_pu (p_move rfl) rfl ?_
    refine k_quiet (c_HasPrefix s ⟨#[45]⟩ _) hs (.cons rfl (.cons rfl .nil)) rfl ?_
    rintro _ _ ⟨b27, rfl, _, _⟩ hs _
    refine s_pu (p_assign rfl) rfl ?_
    refine WL_th ?_
    refine W_sr ?_
    refine s_pu (p_move rfl) rfl ?_
    refine k_quiet (c_TrimPrefix s ⟨#[43]⟩ _) hs (.cons rfl (.cons rfl .nil)) rfl ?_
    rintro _ _ ⟨u29, rfl, h29⟩ hs _
    refine k_quiet (c_TrimPrefix u29 ⟨#[45]⟩ _) hs (.cons rfl (.cons rfl .nil)) rfl ?_
    rintro _ _ ⟨u, rfl, h30⟩ hs _
    obtain ⟨hU, hu1, hu2⟩ := hN.trim h29 h30
    have huM := hU.hmax
    have huP := hU.hle
    refine k_quiet (c_zzReplaceAll u ⟨#[95]⟩ ⟨#[]⟩ rfl (by omega) (by omega) hU.no95 _) hs (.cons rfl (.cons rfl (.cons rfl .nil))) rfl ?_
    rintro _ _ rfl hs _
    refine s_pu (p_assign rfl) rfl ?_
    refine WL_th ?_
    refine W_sr ?_
    refine s_pu (p_assign rfl) rfl ?_
    refine WL_th ?_
    refine W_sr ?_
    refine s_pu (p_assign rfl) rfl ?_
    refine WL_th ?_
    refine W_join (fun e' w' => ∃ _u : Unit, Ext e' (upd (upd (upd (upd emp 8 (.int .i64 10)) 7 (.string ⟨#[100, 101, 99, 105, 109, 97, 108]⟩)) 6 (.string u)) 5 (.bool b27)) ∧ St wI (fun _ => False) w' []) ?_ ?_
    ·
     refine W_block ?_
     refine W_sr ?_
     refine s_pu (p_move rfl) rfl ?_
     refine k_quiet (c_HasPrefix u ⟨#[48, 120]⟩ _) hs (.cons rfl (.cons rfl .nil)) rfl ?_
     rintro _ _ ⟨b34, rfl, hb341, _⟩ hs _
     refine s_pu (p_assign rfl) rfl ?_
     refine WL_th ?_
     refine W_if rfl (fun h32 => ?_) (fun h32 => ?_)
     ·
      exact (hU.no2 (by decide) (hb341 h32)).elim
     ·
      refine W_sr ?_
      refine s_pu (p_move rfl) rfl ?_
      refine k_quiet (c_HasPrefix u ⟨#[48, 111]⟩ _) hs (.cons rfl (.cons rfl .nil)) rfl ?_
      rintro _ _ ⟨b39, rfl, hb391, _⟩ hs _
      refine s_pu (p_assign rfl) rfl ?_
      refine WL_th ?_
      refine W_forget (Ext.cd 4 rfl (Ext.cd 5 rfl (Ext.cd 6 rfl (Ext.cd 8 rfl (Ext.cd 37 rfl (Ext.nil _)))))) ?_
      refine W_if rfl (fun h37 => ?_) (fun h37 => ?_)
      ·
       exact (hU.no2 (by decide) (hb391 h37)).elim
      ·
       refine W_sr ?_
       refine s_pu (p_move rfl) rfl ?_
       refine k_quiet (c_HasPrefix u ⟨#[48, 98]⟩ _) hs (.cons rfl (.cons rfl .nil)) rfl ?_
       rintro _ _ ⟨b44, rfl, hb441, _⟩ hs _
       refine s_pu (p_assign rfl) rfl ?_
       refine WL_th ?_
       refine W_if rfl (fun h42 => ?_) (fun h42 => ?_)
       ·
        exact (hU.no2 (by decide) (hb441 h42)).elim
       ·
        refine W_sr ?_
        refine s_pu (p_move rfl) rfl ?_
        refine k_quiet (c_HasPrefix u ⟨#[48]⟩ _) hs (.cons rfl (.cons rfl .nil)) rfl ?_
        rintro _ _ ⟨b49, rfl, hb491, _⟩ hs _
        refine s_pu (p_move rfl) rfl ?_
        refine WL_cutb 4 54 [4, 5, 6, 8] (fun b => b = true → bt u 0 = 48 ∧ 1 < u.size) ?_ ?_
        ·
         refine s_bool 50 rfl (fun hb50 => ?_) (fun hb50 => ?_)
         ·
          refine g_take rfl rfl rfl ?_
          refine s_pu (p_move rfl) rfl ?_
          refine g_take rfl rfl rfl ?_
          refine s_pu (p_lenS (by kernel_rfl) rfl) rfl ?_
          refine g_take rfl rfl rfl ?_
          refine s_pu (p_gtI rfl rfl) rfl ?_
          refine s_pu (p_pickT rfl rfl) rfl ?_
          refine WL_th ⟨rfl, _, ?_, Ext.cons rfl (ext_kd rfl rfl (ext_kd rfl rfl (ext_kd rfl rfl (ext_kd rfl rfl ext_kn))))⟩
          exact fun h => ⟨(hb491 hb50).at0, by have := of_decide_eq_true h; omega⟩
         ·
          refine g_skip rfl rfl rfl rfl rfl ?_
          refine g_skip rfl rfl rfl rfl rfl ?_
          refine g_skip rfl rfl rfl rfl rfl ?_
          refine s_pu (p_pickF rfl rfl) rfl ?_
          refine WL_th ⟨rfl, _, ?_, Ext.cons rfl (ext_kd rfl rfl (ext_kd rfl rfl (ext_kd rfl rfl (ext_kd rfl rfl ext_kn))))⟩
          exact fun h => by cases h
        ·
         intro b54 hb54
         refine WL_forget (Ext.cd 4 rfl (Ext.cd 5 rfl (Ext.cd 6 rfl (Ext.cd 8 rfl (Ext.cd 54 rfl (Ext.nil _)))))) ?_
         show WL _ _ _ (_ :: _) _ _ _
         refine s_pu (p_move rfl) rfl ?_
         refine WL_cutb 3 58 [4, 5, 6, 8] (fun b => b = false) ?_ ?_
         ·
          refine s_bool 55 rfl (fun hb55 => ?_) (fun hb55 => ?_)
          ·
           obtain ⟨h48, hgt⟩ := hb54 hb55
           exfalso
           have := hU.lead h48
           omega
          ·
           refine g_skip rfl rfl rfl rfl rfl ?_
           refine g_skip rfl rfl rfl rfl rfl ?_
           refine s_pu (p_pickF rfl rfl) rfl ?_
           refine WL_th ⟨rfl, _, ?_, Ext.cons rfl (ext_kd rfl rfl (ext_kd rfl rfl (ext_kd rfl rfl (ext_kd rfl rfl ext_kn))))⟩
           rfl
         ·
          intro b58 hb58
          refine WL_forget (Ext.cd 4 rfl (Ext.cd 5 rfl (Ext.cd 6 rfl (Ext.cd 8 rfl (Ext.cd 58 rfl (Ext.nil _)))))) ?_
          show WL _ _ _ (_ :: _) _ _ _
          refine s_pu (p_assign rfl) rfl ?_
          refine WL_th ?_
          refine W_false (congrArg (fun b => some (Value.bool b)) hb58) ?_
          refine W_sr ?_
          refine s_pu (p_move rfl) rfl ?_
          refine s_pu (p_eqI rfl rfl) rfl ?_
          refine s_pu (p_assign rfl) rfl ?_
          refine WL_th ?_
          refine W_false rfl ?_
          refine W_sr ?_
          refine s_pu (p_assign rfl) rfl ?_
          refine WL_th ?_
          refine W_reg ?_
          refine s_pu (p_assign rfl) rfl ?_
          refine WL_nil ?_
          show ∃ _, _
          exact ⟨(), (Ext.cons rfl (Ext.cons rfl (Ext.cons rfl (Ext.cons rfl (Ext.nil _))))), hs⟩
    ·
     rintro e1 w1 ⟨_, hx, hs⟩
     refine W_forget hx ?_
     clear hx
     refine W_sr ?_
     refine s_pu (p_move rfl) rfl ?_
     refine s_pu (p_assign rfl) rfl ?_
     refine WL_th ?_
     refine W_join (fun e' w' => ∃ (x : ByteArray) (m : Nat), Ext e' (upd (upd (upd (upd emp 9 (.string x)) 8 (.int .i64 10)) 7 (.string ⟨#[100, 101, 99, 105, 109, 97, 108]⟩)) 5 (.bool b27)) ∧ XB x u m ∧ (b27 = true → m = 1) ∧ (b27 = false → m = 0) ∧ St wI (fun _ => False) w' []) ?_ ?_
     ·
      refine W_sr ?_
      refine s_pu (p_move rfl) rfl ?_
      refine WL_th ?_
      refine W_if rfl (fun h63 => ?_) (fun h63 => ?_)
      ·
       refine W_reg ?_
       refine s_pu (p_move rfl) rfl ?_
       refine s_pu (p_addS rfl rfl ?_) rfl ?_
       ·
        (show 1 + u.size ≤ _; omega)
       refine s_pu (p_assign rfl) rfl ?_
       refine WL_th ?_
       exact ⟨_, 1, (Ext.cons rfl (Ext.cons rfl (Ext.cons rfl (Ext.cons rfl (Ext.nil _))))), .one u, fun _ => rfl, fun h => (by rw [h] at h63; cases h63), hs⟩
      ·
       refine W_skip_th ?_
       exact ⟨_, 0, (Ext.cons rfl (Ext.cons rfl (Ext.cons rfl (Ext.cons rfl (Ext.nil _))))), .zero u, fun h => (by rw [h] at h63; cases h63), fun _ => rfl, hs⟩
     ·
      rintro e2 w2 ⟨x, m, hx, hX, hm1, hm0, hs⟩
      refine W_forget hx ?_
      clear hx
      refine W_sr ?_
      refine s_pu (p_assign rfl) rfl ?_
      refine WL_th ?_
      refine W_seq ?_
      refine W_sr ?_
      refine s_pu (p_move rfl) rfl ?_
      refine s_pu (p_eqS rfl rfl) rfl ?_
      refine WL_th ?_
      refine W_false (congrArg (fun b => some (Value.bool b)) kd_dec) ?_
      refine W_sr ?_
      refine s_pu (p_move rfl) rfl ?_
      refine WL_th ?_
      refine W_if rfl (fun h78 => ?_) (fun h78 => ?_)
      ·
       obtain rfl := hm1 h78
       obtain ⟨_, hX1, hX2, hX3⟩ := hX
       refine W_sr ?_
       refine s_pu (p_move rfl) rfl ?_
       refine s_pu (p_move rfl) rfl ?_
       refine k_quiet (c_ParseInt x (by omega) (by omega) (hX2 rfl) (fun i hi => by rw [Nat.add_comm i 1, hX3 i (by omega)]; exact hU.hdig i (Nat.zero_le _) (by omega) (by omega)) _) hs (.cons rfl (.cons rfl (.cons rfl .nil))) rfl ?_
       rintro _ _ ⟨n82, rfl⟩ hs _
       refine s_pu (p_move rfl) rfl ?_
       refine s_pu (p_extract rfl rfl) rfl ?_
       refine s_pu (p_extract rfl rfl) rfl ?_
       refine s_pu (p_assign rfl) rfl ?_
       refine s_pu (p_assign rfl) rfl ?_
       refine WL_th ?_
       refine W_forget (Ext.cd 7 rfl (Ext.cd 9 rfl (Ext.cd 13 rfl (Ext.cd 14 rfl (Ext.nil _))))) ?_
       refine W_seq ?_
       refine W_sr ?_
       refine s_pu (p_move rfl) rfl ?_
       refine s_pu (p_neNN rfl) rfl ?_
       refine WL_th ?_
       refine W_false rfl ?_
       refine W_skip_th ?_
       refine W_reg ?_
       refine s_pu (p_move rfl) rfl ?_
       refine s_pu (p_iface rfl) rfl ?_
       refine s_pu (p_assign rfl) rfl ?_
       refine WL_th ?_
       refine W_sr ?_
       refine s_pu (p_move rfl) rfl ?_
       refine s_pu (p_move rfl) rfl ?_
       refine s_pu (p_move rfl) rfl ?_
       refine s_pu (p_st (.one rfl rfl rfl (.one rfl rfl rfl (.one rfl rfl rfl .nil)))) rfl ?_
       refine k_box hs rfl rfl ?_
       intro b105 _ hs
       refine s_pu (p_assign rfl) rfl ?_
       refine s_pu (p_assign rfl) rfl ?_
       refine WL_th ?_
       refine W_forget (Ext.cd 2 rfl (Ext.cd 3 rfl (Ext.nil _))) ?_
       refine W_ret ?_
       refine ret_tmp2 (fn := Tryz.f85) rfl rfl rfl ?_
       exact hs.fresh ⟨_, _, _, _, _, rfl, rfl, .inr rfl⟩
      ·
       obtain rfl := hm0 h78
       obtain ⟨_, hX1, hX2, hX3⟩ := hX
       simp only [Nat.zero_add] at hX1 hX3
       refine W_sr ?_
       refine s_pu (p_move rfl) rfl ?_
       refine s_pu (p_move rfl) rfl ?_
       refine k_quiet (c_ParseUint x (by omega) (by omega) (fun i hi => by rw [hX3 i (by omega)]; exact hU.hdig i (Nat.zero_le _) (by omega) (by omega)) _) hs (.cons rfl (.cons rfl (.cons rfl .nil))) rfl ?_
       rintro _ _ ⟨n93, rfl, _⟩ hs _
       refine s_pu (p_move rfl) rfl ?_
       refine s_pu (p_extract rfl rfl) rfl ?_
       refine s_pu (p_extract rfl rfl) rfl ?_
       refine s_pu (p_assign rfl) rfl ?_
       refine s_pu (p_assign rfl) rfl ?_
       refine WL_th ?_
       refine W_forget (Ext.cd 7 rfl (Ext.cd 9 rfl (Ext.cd 15 rfl (Ext.cd 16 rfl (Ext.nil _))))) ?_
       refine W_seq ?_
       refine W_sr ?_
       refine s_pu (p_move rfl) rfl ?_
       refine s_pu (p_neNN rfl) rfl ?_
       refine WL_th ?_
       refine W_false rfl ?_
       refine W_skip_th ?_
       refine W_reg ?_
       refine s_pu (p_move rfl) rfl ?_
       refine s_pu (p_iface rfl) rfl ?_
       refine s_pu (p_assign rfl) rfl ?_
       refine WL_th ?_
       refine W_sr ?_
       refine s_pu (p_move rfl) rfl ?_
       refine s_pu (p_move rfl) rfl ?_
       refine s_pu (p_move rfl) rfl ?_
       refine s_pu (p_st (.one rfl rfl rfl (.one rfl rfl rfl (.one rfl rfl rfl .nil)))) rfl ?_
       refine k_box hs rfl rfl ?_
       intro b105 _ hs
       refine s_pu (p_assign rfl) rfl ?_
       refine s_pu (p_assign rfl) rfl ?_
       refine WL_th ?_
       refine W_forget (Ext.cd 2 rfl (Ext.cd 3 rfl (Ext.nil _))) ?_
       refine W_ret ?_
       refine ret_tmp2 (fn := Tryz.f85) rfl rfl rfl ?_
       exact hs.fresh ⟨_, _, _, _, _, rfl, rfl, .inr rfl⟩
theorem c_toNumber1 (s : ByteArray) (o p : Nat) (hN : NB s o p) (hK : o + p + 2 ≤ s.size) (wI : World) (hG : GP wI) : Fresh Tryz.prog 85 [.string s] wI NumR := by
 have hs := St.startNone wI
 have ho := hN.ho
 have hp1 := hN.hp
 have hp18 := hN.hp18
 have hle := hN.hle
 have hmax := hN.hmax
 refine calls_W (args := [_]) Tryz.func85 rfl Tryz.ntmps85 rfl ?_
 refine W_sr ?_
 refine s_pu (p_assign rfl) rfl ?_
 refine s_pu (p_assign rfl) rfl ?_
 refine WL_th ?_
 refine W_seq ?_
 refine W_sr ?_
 refine s_pu (p_move rfl) rfl ?_
 refine s_pu (p_lenS (by kernel_rfl) rfl) rfl ?_
 refine s_pu (p_eqI rfl rfl) rfl ?_
 refine WL_th ?_
 refine W_if rfl (fun h0 => ?_) (fun h0 => ?_)
 ·
  exfalso
  have h1 := eq_of_beq h0
  omega
 ·
  refine W_skip_th ?_
  refine W_seq ?_
  refine W_sr ?_
  refine s_pu (p_move rfl) rfl ?_
  refine k_quiet (c_HasPrefix s ⟨#[95]⟩ _) hs (.cons rfl (.cons rfl .nil)) rfl ?_
  rintro _ _ ⟨b21, rfl, hb211, hb212⟩ hs _
  refine WL_th ?_
  refine W_if rfl (fun h21 => ?_) (fun h21 => ?_)
  ·
   exfalso
   have h1 : bt s 0 = 95 := (hb211 h21).at0
   have h2 := hN.d0
   unfold dig at h2
   rcases (show o = 0 ∨ o = 1 by omega) with rfl | rfl
   ·
    omega
   ·
    rcases hN.hsg rfl with h | h <;> omega
  ·
   refine W_skip_th ?_
   refine W_sr ?_
   refine s_pu (p_move rfl) rfl ?_
   refine k_quiet (hN.dots (k := 1) (.inr ⟨hK, rfl⟩) _) hs (.cons rfl (.cons rfl .nil)) rfl ?_
   rintro _ _ rfl hs _
   refine s_pu (p_assign rfl) rfl ?_
   refine WL_th ?_
   refine W_seq ?_
   refine W_sr ?_
   refine s_pu (p_move rfl) rfl ?_
   refine s_pu (p_gtI rfl rfl) rfl ?_
   refine WL_th ?_
   refine W_if rfl (fun h1 => ?_) (fun h1 => ?_)
   ·
    exfalso
    have := of_decide_eq_true h1
    omega
   ·
    refine W_skip_th ?_
    refine W_forget (Ext.cd 0 rfl (Ext.cd 4 rfl (Ext.nil _))) ?_
    refine W_sr ?_
    refine s_pu (p_move rfl) rfl ?_
    refine k_quiet (c_HasPrefix s ⟨#[45]⟩ _) hs (.cons rfl (.cons rfl .nil)) rfl ?_
    rintro _ _ ⟨b27, rfl, _, _⟩ hs _
    refine s_pu (p_assign rfl) rfl ?_
    refine WL_th ?_
    refine W_sr ?_
    refine s_pu (p_move rfl) rfl ?_
    refine k_quiet (c_TrimPrefix s ⟨#[43]⟩ _) hs (.cons rfl (.cons rfl .nil)) rfl ?_
    rintro _ _ ⟨u29, rfl, h29⟩ hs _
    refine k_quiet (c_TrimPrefix u29 ⟨#[45]⟩ _) hs (.cons rfl (.cons rfl .nil)) rfl ?_
    rintro _ _ ⟨u, rfl, h30⟩ hs _
    obtain ⟨hU, hu1, hu2⟩ := hN.trim h29 h30
    have huM := hU.hmax
    have huP := hU.hle
    refine k_quiet (c_zzReplaceAll u ⟨#[95]⟩ ⟨#[]⟩ rfl (by omega) (by omega) hU.no95 _) hs (.cons rfl (.cons rfl (.cons rfl .nil))) rfl ?_
    rintro _ _ rfl hs _
    refine s_pu (p_assign rfl) rfl ?_
    refine WL_th ?_
    refine W_sr ?_
    refine s_pu (p_assign rfl) rfl ?_
    refine WL_th ?_
    refine W_sr ?_
    refine s_pu (p_assign rfl) rfl ?_
    refine WL_th ?_
    refine W_join (fun e' w' => ∃ _u : Unit, Ext e' (upd (upd (upd (upd emp 8 (.int .i64 0)) 7 (.string ⟨#[102, 108, 111, 97, 116]⟩)) 6 (.string u)) 5 (.bool b27)) ∧ St wI (fun _ => False) w' []) ?_ ?_
    ·
     refine W_block ?_
     refine W_sr ?_
     refine s_pu (p_move rfl) rfl ?_
     refine k_quiet (c_HasPrefix u ⟨#[48, 120]⟩ _) hs (.cons rfl (.cons rfl .nil)) rfl ?_
     rintro _ _ ⟨b34, rfl, hb341, _⟩ hs _
     refine s_pu (p_assign rfl) rfl ?_
     refine WL_th ?_
     refine W_if rfl (fun h32 => ?_) (fun h32 => ?_)
     ·
      exact (hU.no2 (by decide) (hb341 h32)).elim
     ·
      refine W_sr ?_
      refine s_pu (p_move rfl) rfl ?_
      refine k_quiet (c_HasPrefix u ⟨#[48, 111]⟩ _) hs (.cons rfl (.cons rfl .nil)) rfl ?_
      rintro _ _ ⟨b39, rfl, hb391, _⟩ hs _
      refine s_pu (p_assign rfl) rfl ?_
      refine WL_th ?_
      refine W_forget (Ext.cd 4 rfl (Ext.cd 5 rfl (Ext.cd 6 rfl (Ext.cd 8 rfl (Ext.cd 37 rfl (Ext.nil _)))))) ?_
      refine W_if rfl (fun h37 => ?_) (fun h37 => ?_)
      ·
       exact (hU.no2 (by decide) (hb391 h37)).elim
      ·
       refine W_sr ?_
       refine s_pu (p_move rfl) rfl ?_
       refine k_quiet (c_HasPrefix u ⟨#[48, 98]⟩ _) hs (.cons rfl (.cons rfl .nil)) rfl ?_
       rintro _ _ ⟨b44, rfl, hb441, _⟩ hs _
       refine s_pu (p_assign rfl) rfl ?_
       refine WL_th ?_
       refine W_if rfl (fun h42 => ?_) (fun h42 => ?_)
       ·
        exact (hU.no2 (by decide) (hb441 h42)).elim
       ·
        refine W_sr ?_
        refine s_pu (p_move rfl) rfl ?_
        refine k_quiet (c_HasPrefix u ⟨#[48]⟩ _) hs (.cons rfl (.cons rfl .nil)) rfl ?_
        rintro _ _ ⟨b49, rfl, hb491, _⟩ hs _
        refine s_pu (p_move rfl) rfl ?_
        refine WL_cutb 4 54 [4, 5, 6, 8] (fun b => b = true → bt u 0 = 48 ∧ 1 < u.size) ?_ ?_
        ·
         refine s_bool 50 rfl (fun hb50 => ?_) (fun hb50 => ?_)
         ·
          refine g_take rfl rfl rfl ?_
          refine s_pu (p_move rfl) rfl ?_
          refine g_take rfl rfl rfl ?_
          refine s_pu (p_lenS (by kernel_rfl) rfl) rfl ?_
          refine g_take rfl rfl rfl ?_
          refine s_pu (p_gtI rfl rfl) rfl ?_
          refine s_pu (p_pickT rfl rfl) rfl ?_
          refine WL_th ⟨rfl, _, ?_, Ext.cons rfl (ext_kd rfl rfl (ext_kd rfl rfl (ext_kd rfl rfl (ext_kd rfl rfl ext_kn))))⟩
          exact fun h => ⟨(hb491 hb50).at0, by have := of_decide_eq_true h; omega⟩
         ·
          refine g_skip rfl rfl rfl rfl rfl ?_
          refine g_skip rfl rfl rfl rfl rfl ?_
          refine g_skip rfl rfl rfl rfl rfl ?_
          refine s_pu (p_pickF rfl rfl) rfl ?_
          refine WL_th ⟨rfl, _, ?_, Ext.cons rfl (ext_kd rfl rfl (ext_kd rfl rfl (ext_kd rfl rfl (ext_kd rfl rfl ext_kn))))⟩
          exact fun h => by cases h
        ·
         intro b54 hb54
         refine WL_forget (Ext.cd 4 rfl (Ext.cd 5 rfl (Ext.cd 6 rfl (Ext.cd 8 rfl (Ext.cd 54 rfl (Ext.nil _)))))) ?_
         show WL _ _ _ (_ :: _) _ _ _
         refine s_pu (p_move rfl) rfl ?_
         refine WL_cutb 3 58 [4, 5, 6, 8] (fun b => b = false) ?_ ?_
         ·
          refine s_bool 55 rfl (fun hb55 => ?_) (fun hb55 => ?_)
          ·
           refine g_take rfl rfl rfl ?_
           refine s_pu (p_move rfl) rfl ?_
           refine g_take rfl rfl rfl ?_
           refine s_pu (p_eqI rfl rfl) rfl ?_
           refine s_pu (p_pickT rfl rfl) rfl ?_
           refine WL_th ⟨rfl, _, ?_, Ext.cons rfl (ext_kd rfl rfl (ext_kd rfl rfl (ext_kd rfl rfl (ext_kd rfl rfl ext_kn))))⟩
           rfl
          ·
           refine g_skip rfl rfl rfl rfl rfl ?_
           refine g_skip rfl rfl rfl rfl rfl ?_
           refine s_pu (p_pickF rfl rfl) rfl ?_
           refine WL_th ⟨rfl, _, ?_, Ext.cons rfl (ext_kd rfl rfl (ext_kd rfl rfl (ext_kd rfl rfl (ext_kd rfl rfl ext_kn))))⟩
           rfl
         ·
          intro b58 hb58
          refine WL_forget (Ext.cd 4 rfl (Ext.cd 5 rfl (Ext.cd 6 rfl (Ext.cd 8 rfl (Ext.cd 58 rfl (Ext.nil _)))))) ?_
          show WL _ _ _ (_ :: _) _ _ _
          refine s_pu (p_assign rfl) rfl ?_
          refine WL_th ?_
          refine W_false (congrArg (fun b => some (Value.bool b)) hb58) ?_
          refine W_sr ?_
          refine s_pu (p_move rfl) rfl ?_
          refine s_pu (p_eqI rfl rfl) rfl ?_
          refine s_pu (p_assign rfl) rfl ?_
          refine WL_th ?_
          refine W_true rfl ?_
          refine W_reg ?_
          refine s_pu (p_assign rfl) rfl ?_
          refine WL_nil ?_
          show ∃ _, _
          exact ⟨(), (Ext.cons rfl (Ext.cons rfl (Ext.cons rfl (Ext.cons rfl (Ext.nil _))))), hs⟩
    ·
     rintro e1 w1 ⟨_, hx, hs⟩
     refine W_forget hx ?_
     clear hx
     refine W_sr ?_
     refine s_pu (p_move rfl) rfl ?_
     refine s_pu (p_assign rfl) rfl ?_
     refine WL_th ?_
     refine W_join (fun e' w' => ∃ (x : ByteArray) (m : Nat), Ext e' (upd (upd (upd (upd emp 9 (.string x)) 8 (.int .i64 0)) 7 (.string ⟨#[102, 108, 111, 97, 116]⟩)) 5 (.bool b27)) ∧ XB x u m ∧ (b27 = true → m = 1) ∧ (b27 = false → m = 0) ∧ St wI (fun _ => False) w' []) ?_ ?_
     ·
      refine W_sr ?_
      refine s_pu (p_move rfl) rfl ?_
      refine WL_th ?_
      refine W_if rfl (fun h63 => ?_) (fun h63 => ?_)
      ·
       refine W_reg ?_
       refine s_pu (p_move rfl) rfl ?_
       refine s_pu (p_addS rfl rfl ?_) rfl ?_
       ·
        (show 1 + u.size ≤ _; omega)
       refine s_pu (p_assign rfl) rfl ?_
       refine WL_th ?_
       exact ⟨_, 1, (Ext.cons rfl (Ext.cons rfl (Ext.cons rfl (Ext.cons rfl (Ext.nil _))))), .one u, fun _ => rfl, fun h => (by rw [h] at h63; cases h63), hs⟩
      ·
       refine W_skip_th ?_
       exact ⟨_, 0, (Ext.cons rfl (Ext.cons rfl (Ext.cons rfl (Ext.cons rfl (Ext.nil _))))), .zero u, fun h => (by rw [h] at h63; cases h63), fun _ => rfl, hs⟩
     ·
      rintro e2 w2 ⟨x, m, hx, hX, hm1, hm0, hs⟩
      refine W_forget hx ?_
      clear hx
      refine W_sr ?_
      refine s_pu (p_assign rfl) rfl ?_
      refine WL_th ?_
      refine W_seq ?_
      refine W_sr ?_
      refine s_pu (p_move rfl) rfl ?_
      refine s_pu (p_eqS rfl rfl) rfl ?_
      refine WL_th ?_
      refine W_true (congrArg (fun b => some (Value.bool b)) kd_flo) ?_
      refine W_sr ?_
      refine s_pu (p_move rfl) rfl ?_
      refine k_quiet (c_ParseFloat x m p (hX.ft hU (by omega)) _ (hG.keep hs.keep.sames)) hs (.cons rfl (.cons rfl .nil)) rfl ?_
      rintro _ _ ⟨n70, rfl⟩ hs _
      refine s_pu (p_move rfl) rfl ?_
      refine s_pu (p_extract rfl rfl) rfl ?_
      refine s_pu (p_extract rfl rfl) rfl ?_
      refine s_pu (p_assign rfl) rfl ?_
      refine s_pu (p_assign rfl) rfl ?_
      refine WL_th ?_
      refine W_seq ?_
      refine W_sr ?_
      refine s_pu (p_move rfl) rfl ?_
      refine s_pu (p_neNN rfl) rfl ?_
      refine WL_th ?_
      refine W_forget (Ext.cd 7 rfl (Ext.cd 9 rfl (Ext.cd 11 rfl (Ext.cd 12 rfl (Ext.cd 74 rfl (Ext.nil _)))))) ?_
      refine W_false rfl ?_
      refine W_skip_th ?_
      refine W_reg ?_
      refine s_pu (p_move rfl) rfl ?_
      refine s_pu (p_iface rfl) rfl ?_
      refine s_pu (p_assign rfl) rfl ?_
      refine WL_th ?_
      refine W_sr ?_
      refine s_pu (p_move rfl) rfl ?_
      refine s_pu (p_move rfl) rfl ?_
      refine s_pu (p_move rfl) rfl ?_
      refine s_pu (p_st (.one rfl rfl rfl (.one rfl rfl rfl (.one rfl rfl rfl .nil)))) rfl ?_
      refine k_box hs rfl rfl ?_
      intro b105 _ hs
      refine s_pu (p_assign rfl) rfl ?_
      refine s_pu (p_assign rfl) rfl ?_
      refine WL_th ?_
      refine W_forget (Ext.cd 2 rfl (Ext.cd 3 rfl (Ext.nil _))) ?_
      refine W_ret ?_
      refine ret_tmp2 (fn := Tryz.f85) rfl rfl rfl ?_
      exact hs.fresh ⟨_, _, _, _, _, rfl, rfl, .inl ⟨rfl, _, rfl⟩⟩
theorem c_toNumber (s : ByteArray) (h : NumT s) (wI : World) (hG : GP wI) : Fresh Tryz.prog 85 [.string s] wI NumR := by
 obtain ⟨o, p, hN, h1 | h1⟩ := NB.of h
 ·
  exact c_toNumber0 s o p hN h1 wI hG
 ·
  exact c_toNumber1 s o p hN h1 wI hG
theorem c_ToNumber : ToNumberOK GG NumT := by
 intro s wI hG hT
 have hG : GP wI := hG
 have hs := St.startNone wI
 refine calls_W (args := [_]) Tryz.func66 rfl Tryz.ntmps66 rfl ?_
 refine W_sr ?_
 refine s_pu (p_assign rfl) rfl ?_
 refine WL_th ?_
 refine W_sr ?_
 refine s_pu (p_move rfl) rfl ?_
 refine k_fresh (c_toNumber s hT _ (hG.keep hs.keep.sames)) hs (.cons rfl .nil) rfl ?_
 rintro _ _ _ ⟨nb, k, U, u, tx, rfl, rfl, hU⟩ hs _
 refine s_pu (p_move rfl) rfl ?_
 refine s_pu (p_extract rfl rfl) rfl ?_
 refine s_pu (p_extract rfl rfl) rfl ?_
 refine s_pu (p_assign rfl) rfl ?_
 refine s_pu (p_assign rfl) rfl ?_
 refine WL_th ?_
 refine W_seq ?_
 refine W_sr ?_
 refine s_pu (p_move rfl) rfl ?_
 refine s_pu (p_neNN rfl) rfl ?_
 refine WL_th ?_
 refine W_false rfl ?_
 refine W_skip_th ?_
 refine W_sr ?_
 refine s_pu (p_move rfl) rfl ?_
 refine s_pu (p_assign rfl) rfl ?_
 refine WL_th ?_
 refine W_forget (Ext.cd 2 rfl (Ext.nil _)) ?_
 refine W_ret ?_
 refine ret_tmp (fn := Tryz.f66) rfl rfl ?_
 exact hs.fresh ⟨_, rfl, fun h => (by cases h), fun a ha => (by cases ha; exact ⟨nb, k, U, u, tx, rfl, rfl, hU⟩)⟩
end Go.Proofs.YtmalghopogngoaaGreatDoor
namespace Go.Proofs.YtmalghopogngoaaGreatDoor
open Go Go.ChangeShapes Go.WideShapes Go.RowKit MW
section
variable {H : Type} {enc : TypeId × Value → H} {P : Program} {w : World} {base : Nat} {sp : Nat → Bool} {held : Bool} {fuel : Nat} {t : TypeId} {cs : List Value} {x : DataW H × List MemPlace}
theorem trod_fl {k : FloatKind} (ht : P.underlying t = some (.float k)) (h : DataW.trod enc P w base sp held fuel t cs = some x) : ∃ n, cs = [.float k n] ∧ x = (.lit (.float k n), []) := by
 cases fuel with
 | zero => simp [DataW.trod] at h
 | succ n =>
  unfold DataW.trod at h
  rw [ht] at h
  split at h <;> simp_all
theorem slice_at {e c : Nat} {ds : List (DataW H)} {p : List MemPlace} (ht : P.underlying t = some (.slice e)) (hc : P.cellsOf e = c) (hc0 : 0 < c) (h : DataW.trod enc P w base sp held fuel t cs = some (.slice ds [], p)) (h0 : 0 < ds.length) :
  ∃ b o cap, cs = [.slice (some ⟨b, o, none⟩) ds.length cap] ∧ ∀ (i : Nat) (d : DataW H), ds[i]? = some d → ∃ cs' n q, cs'.length = c ∧ (∀ j, j < c → w.cell? ⟨b, o + i * c + j, none⟩ = cs'[j]?) ∧ DataW.trod enc P w base sp held n e cs' = some (d, q) := by
 rcases DataW.trod_slice ht h with ⟨_, hx⟩ | ⟨a, len, cap, elems, rest, n, _, hcs, hx, _, hl, _, hlen, hel, _⟩
 ·
  simp at hx
 ·
  simp only [Prod.mk.injEq, DataW.slice.injEq] at hx
  obtain ⟨⟨rfl, _⟩, _⟩ := hx
  have el : (elems.map (·.1)).length = len := by simpa using hlen
  have one : ∀ (i : Nat) (d : DataW H), (elems.map (·.1))[i]? = some d → ∃ cs' q, w.cells? base (a.add (i * P.cellsOf e)) (P.cellsOf e) = some cs' ∧ DataW.trod enc P w base sp held n e cs' = some (d, q) := fun i d hd => by
   have hi : i < len := by rw [← el]; exact (List.getElem?_eq_some_iff.1 hd).1
   have hE := hel i hi
   rw [List.getElem?_map] at hd
   obtain ⟨y, hy, rfl⟩ := Option.map_eq_some_iff.1 hd
   rw [hy] at hE
   obtain ⟨c1, hc1, hy1⟩ := Option.bind_eq_some_iff.1 hE
   exact ⟨c1, y.2, hc1, hy1⟩
  have hspot : a.spot = none := by
   obtain ⟨c0, q0, g1, _⟩ := one 0 _ (List.getElem?_eq_getElem h0)
   obtain ⟨_, g2, g3⟩ := World.cells?_some g1
   rw [hc] at g2 g3
   have g0 := g3 0 hc0
   rw [List.getElem?_eq_getElem (by omega)] at g0
   simpa [Addr.add] using World.cell?_spot g0
  obtain ⟨b, o, s⟩ := a
  have hspot : s = none := hspot
  subst hspot
  refine ⟨b, o, cap, by rw [el]; exact hcs, fun i d hd => ?_⟩
  obtain ⟨c1, q, g1, g2⟩ := one i d hd
  obtain ⟨_, g3, g4⟩ := World.cells?_some g1
  rw [hc] at g3 g4
  refine ⟨c1, n, q, g3, fun j hj => ?_, g2⟩
  have := g4 j hj
  rwa [add_pl, add_pl] at this
end
theorem laid_at {P : Program} {w : World} {n : String} {d : DataW Unit} : ∀ {l : List (String × DataW Unit)} {ps : List MemPlace}, DataW.LaidVars P w l ps → (n, d) ∈ l →
  ∃ g t cs fuel p, P.globalNamed n = some g ∧ (P.globals[g]?).map (·.type) = some t ∧ w.var? P n = some cs ∧ DataW.trod (fun _ => ()) P w 0 (fun _ => true) false fuel t cs.toList = some (d, p)
 | [], _, _, h => by simp at h
 | (n', d') :: r, ps, ⟨g, t, cs, fuel, p, q, h1, h2, h3, h4, hr, _⟩, h => by
  rcases List.mem_cons.1 h with h | h
  ·
   cases h
   exact ⟨g, t, cs, fuel, p, h1, h2, h3, h4⟩
  ·
   exact laid_at hr h
theorem var_of {w : World} {n : String} {d : DataW Unit} {l : List (String × DataW Unit)} {ps : List MemPlace} (g : Nat) (t : TypeId) (hg : Tryz.prog.globalNamed n = some g) (ht : (Tryz.prog.globals[g]?).map (·.type) = some t) (h : DataW.LaidVars Tryz.prog w l ps) (hm : (n, d) ∈ l) :
  ∃ cs fuel p, (∀ i : Nat, w.cell? ⟨g, i, none⟩ = cs[i]?) ∧ DataW.trod (fun _ => ()) Tryz.prog w 0 (fun _ => true) false fuel t cs = some (d, p) := by
 obtain ⟨g', t', cs, fuel, p, h1, h2, h3, h4⟩ := laid_at h hm
 obtain rfl := Option.some.inj (hg.symm.trans h1)
 obtain rfl := Option.some.inj (ht.symm.trans h2)
 exact ⟨cs.toList, fuel, p, fun i => by rw [World.var?_cell hg h3 i, Array.getElem?_toList], h4⟩
theorem cells157 : Tryz.prog.cellsOf 157 = 1 := by kernel_rfl
theorem cells304 : Tryz.prog.cellsOf 304 = 2 := by kernel_rfl
theorem cells295 : Tryz.prog.cellsOf 295 = 2 := by kernel_rfl
theorem cells296 : Tryz.prog.cellsOf 296 = 1392 := by kernel_rfl
theorem cells211 : Tryz.prog.cellsOf 211 = 1 := by kernel_rfl
theorem cells40 : Tryz.prog.cellsOf 40 = 1 := by kernel_rfl
theorem cells258 : Tryz.prog.cellsOf 258 = 3 := by kernel_rfl
theorem len2 {α : Type} {l : List α} (h : l.length = 2) : ∃ a b, l = [a, b] := by
 match l, h with
 | [a, b], _ => exact ⟨a, b, rfl⟩
theorem len3 {α : Type} {l : List α} (h : l.length = 3) : ∃ a b c, l = [a, b, c] := by
 match l, h with
 | [a, b, c], _ => exact ⟨a, b, c, rfl⟩
theorem gp_info {w : World} {l : List (String × DataW Unit)} {ps : List MemPlace} (h : DataW.LaidVars Tryz.prog w l ps) (hm : ("internal/strconv.float64info", Rows.laid_internal_strconv_float64info) ∈ l) :
  w.cell? ⟨5, 0, none⟩ = some (.int .u64 52) ∧ w.cell? ⟨5, 1, none⟩ = some (.int .u64 11) ∧ w.cell? ⟨5, 2, none⟩ = some (.int .i64 (-1023)) := by
 obtain ⟨cs, fuel, p, hc, ht⟩ := var_of 5 258 (by kernel_rfl) (by kernel_rfl) h hm
 obtain ⟨xs, n, _, hx, hl, hxl, hel⟩ := DataW.trod_struct Tryz.underlying258 ht
 rw [cells258] at hl
 obtain ⟨a, b, c, rfl⟩ := len3 hl
 obtain ⟨x, y, z, rfl⟩ := len3 hxl
 have e0 : DataW.trod _ Tryz.prog w 0 (fun _ => true) false n 40 (([a, b, c].drop 0).take (Tryz.prog.cellsOf 40)) = some x := hel 0 _ rfl
 have e1 : DataW.trod _ Tryz.prog w 0 (fun _ => true) false n 40 (([a, b, c].drop 1).take (Tryz.prog.cellsOf 40)) = some y := hel 1 _ rfl
 have e2 : DataW.trod _ Tryz.prog w 0 (fun _ => true) false n 3 (([a, b, c].drop 2).take (Tryz.prog.cellsOf 3)) = some z := hel 2 _ rfl
 rw [cells40] at e0 e1
 rw [cells3] at e2
 obtain ⟨k0, h0, rfl, _⟩ := DataW.trod_int Tryz.underlying40 e0
 obtain ⟨k1, h1, rfl, _⟩ := DataW.trod_int Tryz.underlying40 e1
 obtain ⟨k2, h2, rfl, _⟩ := DataW.trod_int Tryz.underlying3 e2
 have h0 : [a] = [.int .u64 k0] := h0
 have h1 : [b] = [.int .u64 k1] := h1
 have h2 : [c] = [.int .i64 k2] := h2
 cases h0
 cases h1
 cases h2
 have hx := congrArg Prod.fst hx
 simp only [Rows.laid_internal_strconv_float64info, List.map_cons, List.map_nil, DataW.agg.injEq, List.cons.injEq, DataW.lit.injEq, Lit.int.injEq, true_and, and_true] at hx
 obtain ⟨rfl, rfl, rfl⟩ := hx
 exact ⟨hc 0, hc 1, hc 2⟩
theorem gp_opt {w : World} {l : List (String × DataW Unit)} {ps : List MemPlace} (h : DataW.LaidVars Tryz.prog w l ps) (hm : ("internal/strconv.optimize", Rows.laid_internal_strconv_optimize) ∈ l) : w.cell? ⟨4, 0, none⟩ = some (.bool true) := by
 obtain ⟨cs, fuel, p, hc, ht⟩ := var_of 4 4 (by kernel_rfl) (by kernel_rfl) h hm
 obtain ⟨b, rfl, hx⟩ := DataW.trod_bool Tryz.underlying4 ht
 have hx := congrArg Prod.fst hx
 simp only [Rows.laid_internal_strconv_optimize, DataW.lit.injEq, Lit.bool.injEq] at hx
 subst hx
 exact hc 0
theorem gp_pow {w : World} {l : List (String × DataW Unit)} {ps : List MemPlace} (h : DataW.LaidVars Tryz.prog w l ps) (hm : ("internal/strconv.powtab", Rows.laid_internal_strconv_powtab) ∈ l) :
  ∃ b o cap, w.cell? ⟨8, 0, none⟩ = some (.slice (some ⟨b, o, none⟩) 9 cap) ∧ ∀ (i : Nat) (n : Int), powL[i]? = some n → w.cell? ⟨b, o + i * 1, none⟩ = some (.int .i64 n) := by
 obtain ⟨cs, fuel, p, hc, ht⟩ := var_of 8 34 (by kernel_rfl) (by kernel_rfl) h hm
 have hd : Rows.laid_internal_strconv_powtab = (.slice (powL.map fun n => .lit (.int .i64 n)) [] : DataW Unit) := rfl
 rw [hd] at ht
 obtain ⟨b, o, cap, rfl, hE⟩ := slice_at Tryz.underlying34 cells3 (by decide) ht (by decide)
 refine ⟨b, o, cap, hc 0, fun i n hn => ?_⟩
 obtain ⟨cs', m, q, hl, hcell, ht'⟩ := hE i (.lit (.int .i64 n)) (by rw [List.getElem?_map, hn]; rfl)
 obtain ⟨v, rfl, hx, _⟩ := DataW.trod_int Tryz.underlying3 ht'
 have hx := congrArg Prod.fst hx
 simp only [DataW.lit.injEq, Lit.int.injEq, true_and] at hx
 subst hx
 exact hcell 0 (by decide)
theorem gp_p10 {w : World} {l : List (String × DataW Unit)} {ps : List MemPlace} (h : DataW.LaidVars Tryz.prog w l ps) (hm : ("internal/strconv.float64pow10", Rows.laid_internal_strconv_float64pow10) ∈ l) :
  ∃ b o cap, w.cell? ⟨9, 0, none⟩ = some (.slice (some ⟨b, o, none⟩) 23 cap) ∧ ∀ i, i < 23 → ∃ n, w.cell? ⟨b, o + i * 1, none⟩ = some (.float .f64 n) := by
 obtain ⟨cs, fuel, p, hc, ht⟩ := var_of 9 291 (by kernel_rfl) (by kernel_rfl) h hm
 obtain ⟨ds, hd, hdl⟩ : ∃ ds, Rows.laid_internal_strconv_float64pow10 = (.slice ds [] : DataW Unit) ∧ ds.length = 23 := ⟨_, rfl, rfl⟩
 rw [hd] at ht
 obtain ⟨b, o, cap, rfl, hE⟩ := slice_at Tryz.underlying291 cells157 (by decide) ht (by omega)
 rw [hdl] at hc
 refine ⟨b, o, cap, hc 0, fun i hi => ?_⟩
 obtain ⟨cs', m, q, hl, hcell, ht'⟩ := hE i _ (List.getElem?_eq_getElem (by omega))
 obtain ⟨v, rfl, _⟩ := trod_fl Tryz.underlying157 ht'
 exact ⟨v, hcell 0 (by decide)⟩
theorem gp_tab {w : World} {l : List (String × DataW Unit)} {ps : List MemPlace} (h : DataW.LaidVars Tryz.prog w l ps) (hm : ("internal/strconv.pow10Tab", Rows.laid_internal_strconv_pow10Tab) ∈ l) (i : Nat) (hi : i < 1392) : ∃ n : Int, w.cell? ⟨10, i, none⟩ = some (.int .u64 n) := by
 obtain ⟨cs, fuel, p, hc, ht⟩ := var_of 10 296 (by kernel_rfl) (by kernel_rfl) h hm
 obtain ⟨xs, m, _, _, hl, hxl, hel⟩ := DataW.trod_array Tryz.underlying296 ht
 rw [cells296] at hl
 have hE := hel (i / 2) (by omega)
 rw [List.getElem?_eq_getElem (by omega), cells295] at hE
 obtain ⟨ys, m', _, _, hl2, hyl, hel2⟩ := DataW.trod_struct Tryz.underlying295 hE
 obtain ⟨y0, y1, rfl⟩ := len2 hyl
 have e0 : DataW.trod _ Tryz.prog w 0 (fun _ => true) false m' 211 ((((cs.drop (i / 2 * 2)).take 2).drop 0).take (Tryz.prog.cellsOf 211)) = some y0 := hel2 0 _ rfl
 have e1 : DataW.trod _ Tryz.prog w 0 (fun _ => true) false m' 211 ((((cs.drop (i / 2 * 2)).take 2).drop 1).take (Tryz.prog.cellsOf 211)) = some y1 := hel2 1 _ rfl
 rw [cells211] at e0 e1
 obtain ⟨k0, h0, _⟩ := DataW.trod_int Tryz.underlying211 e0
 obtain ⟨k1, h1, _⟩ := DataW.trod_int Tryz.underlying211 e1
 rw [hc i]
 rcases (show i = i / 2 * 2 ∨ i = i / 2 * 2 + 1 by omega) with he | he
 ·
  refine ⟨k0, ?_⟩
  have := congrArg (·[0]?) h0
  simp only [List.drop_zero, List.getElem?_take, List.getElem?_drop, Nat.add_zero] at this
  rw [← he] at this
  simpa using this
 ·
  refine ⟨k1, ?_⟩
  have := congrArg (·[0]?) h1
  simp only [List.getElem?_take, List.getElem?_drop, Nat.add_zero] at this
  rw [← he] at this
  simpa using this
theorem gp_cheat {w : World} {l : List (String × DataW Unit)} {ps : List MemPlace} (h : DataW.LaidVars Tryz.prog w l ps) (hm : ("internal/strconv.leftcheats", Rows.laid_internal_strconv_leftcheats) ∈ l) :
  ∃ b o cap, w.cell? ⟨13, 0, none⟩ = some (.slice (some ⟨b, o, none⟩) 61 cap) ∧ ∀ (i : Nat) (δ : Nat) (ds : List UInt8), Go.Pinned.cheatRows[i]? = some (δ, ds) → w.cell? ⟨b, o + i * 2, none⟩ = some (.int .i64 δ) ∧ w.cell? ⟨b, o + i * 2 + 1, none⟩ = some (.string ⟨ds.toArray⟩) := by
 obtain ⟨cs, fuel, p, hc, ht⟩ := var_of 13 305 (by kernel_rfl) (by kernel_rfl) h hm
 have hlen : Go.Pinned.cheatRows.length = 61 := by kernel_rfl
 have hd : Rows.laid_internal_strconv_leftcheats = (.slice (Go.Pinned.cheatRows.map fun x => .agg [.lit (.int .i64 x.1), .lit (.string x.2)]) [] : DataW Unit) := rfl
 rw [hd] at ht
 obtain ⟨b, o, cap, rfl, hE⟩ := slice_at Tryz.underlying305 cells304 (by decide) ht (by rw [List.length_map, hlen]; decide)
 rw [List.length_map, hlen] at hc
 refine ⟨b, o, cap, hc 0, fun i δ ds hi => ?_⟩
 obtain ⟨cs', m, q, hl, hcell, ht'⟩ := hE i _ (by rw [List.getElem?_map, hi]; rfl)
 obtain ⟨xs, n, _, hx, _, hxl, hel⟩ := DataW.trod_struct Tryz.underlying304 ht'
 obtain ⟨v0, v1, rfl⟩ := len2 hl
 obtain ⟨y0, y1, rfl⟩ := len2 hxl
 have e0 : DataW.trod _ Tryz.prog w 0 (fun _ => true) false n 3 (([v0, v1].drop 0).take (Tryz.prog.cellsOf 3)) = some y0 := hel 0 _ rfl
 have e1 : DataW.trod _ Tryz.prog w 0 (fun _ => true) false n 9 (([v0, v1].drop 1).take (Tryz.prog.cellsOf 9)) = some y1 := hel 1 _ rfl
 rw [cells3] at e0
 rw [cells9] at e1
 obtain ⟨k0, h0, rfl, _⟩ := DataW.trod_int Tryz.underlying3 e0
 obtain ⟨s, h1, rfl, _⟩ := DataW.trod_string Tryz.underlying9 e1
 have h0 : [v0] = [.int .i64 k0] := h0
 have h1 : [v1] = [.string s] := h1
 cases h0
 cases h1
 have hx := congrArg Prod.fst hx
 simp only [List.map_cons, List.map_nil, DataW.agg.injEq, List.cons.injEq, DataW.lit.injEq, Lit.int.injEq, Lit.string.injEq, true_and, and_true] at hx
 obtain ⟨rfl, rfl⟩ := hx
 exact ⟨hcell 0 (by decide), hcell 1 (by decide)⟩
theorem gp_of {w : World} (h : laidMetH Tryz.prog Rows.fnParentTreeUptoRow.laid w) : GP w := by
 rw [MakeChecks.laidMetH_plain _ _ _ (by kernel_rfl)] at h
 obtain ⟨ps, hL, _⟩ := h
 have hm : ∀ x, x ∈ Rows.fnParentTreeUptoRow.laid ↔ x ∈ [("math/bits.deBruijn32tab", Rows.laid_math_bits_deBruijn32tab), ("math/bits.deBruijn64tab", Rows.laid_math_bits_deBruijn64tab), ("internal/strconv.float32info", Rows.laid_internal_strconv_float32info), ("internal/strconv.float64info", Rows.laid_internal_strconv_float64info), ("internal/strconv.optimize", Rows.laid_internal_strconv_optimize), ("internal/strconv.powtab", Rows.laid_internal_strconv_powtab), ("internal/strconv.float64pow10", Rows.laid_internal_strconv_float64pow10), ("internal/strconv.float32pow10", Rows.laid_internal_strconv_float32pow10), ("internal/strconv.uint64pow10", Rows.laid_internal_strconv_uint64pow10), ("strconv.ErrRange", Rows.laid_strconv_ErrRange), ("strconv.ErrSyntax", Rows.laid_strconv_ErrSyntax), ("internal/strconv.leftcheats", Rows.laid_internal_strconv_leftcheats), ("internal/strconv.pow10Tab", Rows.laid_internal_strconv_pow10Tab)] := fun x => Iff.rfl
 have hi := gp_info hL ((hm _).2 (.tail _ (.tail _ (.tail _ (.head _)))))
 exact ⟨gp_opt hL ((hm _).2 (.tail _ (.tail _ (.tail _ (.tail _ (.head _)))))), hi.1, hi.2.1, hi.2.2,
  gp_pow hL ((hm _).2 (.tail _ (.tail _ (.tail _ (.tail _ (.tail _ (.head _))))))),
  gp_p10 hL ((hm _).2 (.tail _ (.tail _ (.tail _ (.tail _ (.tail _ (.tail _ (.head _)))))))),
  gp_tab hL ((hm _).2 (.tail _ (.tail _ (.tail _ (.tail _ (.tail _ (.tail _ (.tail _ (.tail _ (.tail _ (.tail _ (.tail _ (.tail _ (.head _)))))))))))))),
  gp_cheat hL ((hm _).2 (.tail _ (.tail _ (.tail _ (.tail _ (.tail _ (.tail _ (.tail _ (.tail _ (.tail _ (.tail _ (.tail _ (.head _)))))))))))))⟩
end Go.Proofs.YtmalghopogngoaaGreatDoor
