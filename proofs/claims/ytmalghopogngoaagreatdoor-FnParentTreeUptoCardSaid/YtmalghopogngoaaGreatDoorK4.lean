/- A part of the proof that the parent of a node below the root is the node right above it (laws.FnParentTree), for all inputs of bulk at most 1048576 and the listed variables as the text lays them: part 4 of 16. -/
import Derived.Test.YtmalghopogngoaaGreatDoorK3
import Derived.WalkKit
set_option linter.unusedVariables false
set_option linter.unusedSimpArgs false
namespace Go.Proofs.YtmalghopogngoaaGreatDoor
open Go Go.RowKit MW
mutual
def Sp.size : Sp → Nat | .mk ks => 1 + ssizes ks
def ssizes : List Sp → Nat | [] => 0 | t :: ts => t.size + ssizes ts
end
mutual
theorem rose_size : ∀ r : Rose, r.shape.size = r.size
 | .mk n ks => by simp [Rose.shape, Sp.size, Rose.size, rose_sizes ks]
theorem rose_sizes : ∀ rs : List Rose, ssizes (rshapes rs) = rsizes rs
 | [] => rfl
 | r :: rs => by simp [rshapes, ssizes, rsizes, rose_size r, rose_sizes rs]
end
mutual
theorem at_size : ∀ t : AT, t.shape.size = t.size
 | .mk T b ks => by simp [AT.shape, Sp.size, AT.size, at_sizes ks]
theorem at_sizes : ∀ ts : List AT, ssizes (ashapes ts) = asizes ts
 | [] => rfl
 | t :: ts => by simp [ashapes, ssizes, asizes, at_size t, at_sizes ts]
end
def AT.key (t : AT) : Nat × Nat := (t.T, t.b)
/- Where the one right above each lies; at: how many come ahead of these. -/
mutual
def Sp.par : Sp → List Int | .mk ks => -1 :: pars 1 ks
def pars (at_ : Nat) : List Sp → List Int | [] => [] | k :: ks => (k.par.map fun x => if x < 0 then (0 : Int) else at_ + x) ++ pars (at_ + k.size) ks
end
mutual
theorem par_length : ∀ s : Sp, s.par.length = s.size
 | .mk ks => by simp [Sp.par, Sp.size, pars_length ks 1]; omega
theorem pars_length : ∀ (ss : List Sp) (a : Nat), (pars a ss).length = ssizes ss
 | [], a => rfl
 | s :: ss, a => by simp [pars, ssizes, par_length s, pars_length ss]
end
mutual
theorem nodes_at {w : World} {S : Foot} : ∀ t : AT, RepA w S t → ∀ k ∈ t.pre, NodeAt w S k
 | .mk T b ks, h, k, hk => by
  rw [pre_mk] at hk
  rcases List.mem_cons.1 hk with rfl | hk
  ·
   exact h.node
  ·
   exact nodes_ats ks h.all k hk
theorem nodes_ats {w : World} {S : Foot} : ∀ ts : List AT, (∀ t ∈ ts, RepA w S t) → ∀ k ∈ pres ts, NodeAt w S k
 | [], _, k, hk => by simp [pres] at hk
 | t :: ts, h, k, hk => by
  simp only [pres, List.mem_append] at hk
  rcases hk with hk | hk
  ·
   exact nodes_at t (h t (by simp)) k hk
  ·
   exact nodes_ats ts (fun t ht => h t (by simp [ht])) k hk
end
/- Whoever is not there is not found. -/
mutual
theorem find_none (p q : Nat × Nat) : ∀ t : AT, q ∉ t.pre.map AT.key → findP p q t = none
 | .mk T b ks, h => by
  rw [pre_mk, List.map_cons, List.mem_cons] at h
  unfold findP
  rw [if_neg (show ¬ q = (T, b) from fun e => h (.inl e))]
  exact finds_none (T, b) q ks (fun hm => h (.inr hm))
theorem finds_none (p q : Nat × Nat) : ∀ ts : List AT, q ∉ (pres ts).map AT.key → findPs p q ts = none
 | [], _ => rfl
 | t :: ts, h => by
  simp only [pres, List.map_append, List.mem_append] at h
  simp [findPs, find_none p q t (fun hm => h (.inl hm)), finds_none p q ts (fun hm => h (.inr hm))]
end
theorem par_zero (s : Sp) : s.par[0]? = some (-1) := by cases s; simp [Sp.par]
/- Below the first one the one right above lies in the tree, ahead of it. -/
mutual
theorem par_pos : ∀ (s : Sp) (j : Nat) (x : Int), 0 < j → s.par[j]? = some x → 0 ≤ x ∧ x < j
 | .mk ks, j, x, hj, hx => by
  obtain ⟨j, rfl⟩ : ∃ i, j = i + 1 := ⟨j - 1, by omega⟩
  simp only [Sp.par, List.getElem?_cons_succ] at hx
  have := pars_pos ks 1 j x (Nat.le_refl _) hx
  omega
theorem pars_pos : ∀ (ss : List Sp) (a j : Nat) (x : Int), 1 ≤ a → (pars a ss)[j]? = some x → 0 ≤ x ∧ x < a + j
 | [], a, j, x, ha, hx => by simp [pars] at hx
 | s :: ss, a, j, x, ha, hx => by
  simp only [pars] at hx
  by_cases hlt : j < s.size
  ·
   rw [List.getElem?_append_left (by rw [List.length_map, par_length]; omega), List.getElem?_map] at hx
   cases hy : s.par[j]? with
   | none => rw [hy] at hx; simp at hx
   | some y =>
    rw [hy] at hx
    simp only [Option.map_some, Option.some.injEq] at hx
    by_cases hj : j = 0
    ·
     subst hj
     rw [par_zero] at hy
     obtain rfl := Option.some.inj hy
     simp at hx
     omega
    ·
     have := par_pos s j y (by omega) hy
     rw [if_neg (by omega)] at hx
     omega
  ·
   rw [List.getElem?_append_right (by rw [List.length_map, par_length]; omega)] at hx
   have := pars_pos ss _ _ x (by omega) hx
   simp [par_length] at this
   omega
end
/- The j-th of the tree: whom findP tells. -/
mutual
theorem find_at (p : Nat × Nat) : ∀ (t : AT) (j : Nat) (k : AT), (t.pre.map AT.key).Nodup → t.pre[j]? = some k →
  findP p k.key t = if j = 0 then some p else (t.pre[((t.shape.par[j]?).getD 0).toNat]?).map AT.key
 | .mk T b ks, j, k, hnd, hk => by
  rw [pre_mk] at hk hnd ⊢
  rw [List.map_cons, List.nodup_cons] at hnd
  cases j with
  | zero =>
   simp at hk
   subst hk
   simp [findP, AT.key, AT.T, AT.b]
  | succ j =>
   simp only [List.getElem?_cons_succ] at hk
   have hmem : k.key ∈ (pres ks).map AT.key := List.mem_map.2 ⟨k, List.mem_of_getElem? hk, rfl⟩
   have hne : ¬ k.key = (T, b) := fun e => hnd.1 (by rw [show AT.key (.mk T b ks) = (T, b) from rfl, ← e]; exact hmem)
   unfold findP
   rw [if_neg hne, if_neg (by omega)]
   have := finds_at (T, b) (.mk T b ks) rfl ks 1 [.mk T b ks] rfl rfl j k hnd.2 hk
   rw [this]
   simp only [AT.shape, Sp.par, List.getElem?_cons_succ, List.cons_append, List.nil_append]
theorem finds_at (p : Nat × Nat) (r : AT) (hr : r.key = p) : ∀ (ts : List AT) (a : Nat) (hd : List AT), hd.length = a → hd[0]? = some r → ∀ (j : Nat) (k : AT), ((pres ts).map AT.key).Nodup → (pres ts)[j]? = some k →
  findPs p k.key ts = ((hd ++ pres ts)[(((pars a (ashapes ts))[j]?).getD 0).toNat]?).map AT.key
 | [], a, hd, ha, h0, j, k, hnd, hk => by simp [pres] at hk
 | t :: ts, a, hd, ha, h0, j, k, hnd, hk => by
  simp only [pres] at hk hnd ⊢
  rw [List.map_append, List.nodup_append] at hnd
  obtain ⟨hn1, hn2, hdis⟩ := hnd
  simp only [ashapes, pars]
  by_cases hlt : j < t.size
  ·
   rw [List.getElem?_append_left (by simpa [pre_length] using hlt)] at hk
   have hmem : k.key ∈ t.pre.map AT.key := List.mem_map.2 ⟨k, List.mem_of_getElem? hk, rfl⟩
   have hno : k.key ∉ (pres ts).map AT.key := fun hm => hdis _ hmem _ hm rfl
   simp only [findPs, finds_none p k.key ts hno, Option.or_none]
   have hjl : j < t.shape.par.length := by simpa [par_length, at_size] using hlt
   have hx : t.shape.par[j]? = some t.shape.par[j] := List.getElem?_eq_getElem hjl
   have e0 : ((t.shape.par.map fun x => if x < 0 then (0 : Int) else a + x) ++ pars (a + t.shape.size) (ashapes ts))[j]? = some (if t.shape.par[j] < 0 then (0 : Int) else a + t.shape.par[j]) := by
    rw [List.getElem?_append_left (by rw [List.length_map]; exact hjl), List.getElem?_map, hx]
    rfl
   rw [find_at p t j k hn1 hk, e0, Option.getD_some]
   by_cases hj : j = 0
   ·
    subst hj
    rw [par_zero] at hx
    rw [← Option.some.inj hx]
    simp [h0, hr, List.getElem?_append_left (List.getElem?_eq_some_iff.1 h0).1]
   ·
    rw [if_neg hj, hx, Option.getD_some]
    have hp := par_pos _ j _ (by omega) hx
    rw [if_neg (by omega)]
    have e1 : ((a : Int) + t.shape.par[j]).toNat = hd.length + t.shape.par[j].toNat := by omega
    rw [e1, List.getElem?_append_right (by omega), Nat.add_sub_cancel_left, List.getElem?_append_left]
    rw [pre_length]
    omega
  ·
   have hk' := hk
   rw [List.getElem?_append_right (by simpa [pre_length] using hlt)] at hk
   have hmem : k.key ∈ (pres ts).map AT.key := List.mem_map.2 ⟨k, List.mem_of_getElem? hk, rfl⟩
   have hno : k.key ∉ t.pre.map AT.key := fun hm => hdis _ hm _ hmem rfl
   simp only [findPs, find_none p k.key t hno, Option.none_or]
   have e0 : ((t.shape.par.map fun x => if x < 0 then (0 : Int) else a + x) ++ pars (a + t.shape.size) (ashapes ts))[j]? = (pars (a + t.shape.size) (ashapes ts))[j - t.pre.length]? := by
    rw [List.getElem?_append_right (by rw [List.length_map, par_length, at_size]; omega), List.length_map, par_length, at_size, pre_length]
   rw [e0]
   have := finds_at p r hr ts (a + t.shape.size) (hd ++ t.pre) (by simp [ha, pre_length, at_size]) (by
    rw [List.getElem?_append_left (List.getElem?_eq_some_iff.1 h0).1]; exact h0) (j - t.pre.length) k hn2 hk
   rw [this, List.append_assoc]
end
theorem which_at (ts : List AT) (m : Nat) (k : AT) (hnd : (ts.map AT.key).Nodup) (hk : ts[m]? = some k) : whichI (some k.key) ts = m := by
 have hf : ts.findIdx? (fun t => (t.T, t.b) = k.key) = some m := by
  rw [List.findIdx?_eq_some_iff_getElem]
  have hlt := (List.getElem?_eq_some_iff.1 hk).1
  have hk' : ts[m] = k := (List.getElem?_eq_some_iff.1 hk).2
  refine ⟨hlt, by simp [hk', AT.key], fun j hj => ?_⟩
  have hjl : j < ts.length := by omega
  simp only [decide_eq_false_iff_not, decide_eq_true_eq, Bool.not_eq_true]
  intro e
  have e2 : (ts.map AT.key)[j]? = (ts.map AT.key)[m]? := by
   rw [List.getElem?_map, List.getElem?_map, List.getElem?_eq_getElem hjl, hk]
   simpa [AT.key] using e
  have := (List.getElem?_inj (by simpa using hjl) hnd).1 e2
  omega
 simp only [whichI, hf]
/-- The law. -/
theorem parent_at (t : AT) (i : Nat) (k : AT) (hnd : (t.pre.map AT.key).Nodup) (hi : 0 < i) (hk : t.pre[i]? = some k) : ∃ x, t.shape.par[i]? = some x ∧ whichI (findP t.key k.key t) t.pre = x := by
 have hlt : i < t.shape.par.length := by rw [par_length, at_size, ← pre_length]; exact (List.getElem?_eq_some_iff.1 hk).1
 refine ⟨t.shape.par[i], List.getElem?_eq_getElem hlt, ?_⟩
 have hx : t.shape.par[i]? = some t.shape.par[i] := List.getElem?_eq_getElem hlt
 have hp := par_pos _ i _ hi hx
 rw [find_at t.key t i k hnd hk, if_neg (by omega), hx, Option.getD_some]
 have hl2 : t.shape.par[i].toNat < t.pre.length := by
  have := (List.getElem?_eq_some_iff.1 hk).1
  omega
 rw [List.getElem?_eq_getElem hl2, Option.map_some, which_at t.pre _ _ hnd (List.getElem?_eq_getElem hl2)]
 omega
theorem keys_nodup {l : List AT} (h : (ids l).Nodup) : (l.map AT.key).Nodup := by
 unfold ids at h
 rw [List.nodup_iff_pairwise_ne, List.pairwise_map] at h ⊢
 exact h.imp fun hne e => hne (congrArg Prod.snd e)
theorem find_mem (p q : Nat × Nat) (t : AT) (j : Nat) (k : AT) (hnd : (t.pre.map AT.key).Nodup) (hk : t.pre[j]? = some k) : findP t.key k.key t = none ∨ ∃ m ∈ t.pre, findP t.key k.key t = some m.key := by
 rw [find_at t.key t j k hnd hk]
 split
 ·
  refine .inr ⟨t, ?_, rfl⟩
  cases t; rw [pre_mk]; simp
 ·
  cases hx : t.pre[((t.shape.par[j]?).getD 0).toNat]? with
  | none => exact .inl rfl
  | some m => exact .inr ⟨m, List.mem_of_getElem? hx, rfl⟩
end Go.Proofs.YtmalghopogngoaaGreatDoor
set_option linter.unusedVariables false
set_option linter.unusedSimpArgs false
set_option maxRecDepth 4000
namespace Go.Proofs.YtmalghopogngoaaGreatDoor
open Go Go.RowKit MW
theorem catch_idle (p q : Addr) (w : World) :
  CallsD Tryz.prog 10 #[.pointer (some p), .pointer (some q)] .returning w fun e u' w' => e = .returned (.tuple #[]) ∧ u' = .returning ∧ w' = w := by
 refine callsD_of_wpS Tryz.func10 rfl fun c₀ cs hu => ?_
 apply wpS_seq
 apply wpS_region
 simp [wpOpsS, go_sem, recoverD, hu, Tryz.ntmps10, Exit.thenS]
 refine wpS_cond (t := false) (by simp [Act.eval, Array.replicate]) ?_
 simp only [Bool.false_eq_true, if_false]
 refine wpS_of_wp (wp_skip ?_)
 cases c₀
 simp_all [bodyPostS, results, Tryz.results10]
theorem MW.St.toSnap {w0 w : World} {F : Foot} {A : Assn} {G : List Assn} (h : St w0 F w (A :: G)) : ∃ S0, A.on w S0 ∧ St w0 F w (snap w S0 :: G) := by
 obtain ⟨S, hs, hF⟩ := h.sat
 cases hs with
 | cons ha hl hg hd hS => exact ⟨_, ha, h.keep, S, .cons ⟨fun _ => id, .refl _ _⟩ hl hg hd hS, hF⟩
theorem c_which_any (v : Value) (ts : List AT) (o : Option (Nat × Nat)) (wI : World) (hlen : ts.length ≤ 1000000) (hE : ElemsAt wI (fun _ => True) v (ts.map AT.val)) (hN : ∀ t ∈ ts, NodeAt wI (fun _ => True) t) (ho : o = none ∨ ∃ m ∈ ts, o = some m.key) :
  Quiet Tryz.prog 13 [v, valP o] wI fun r => r = .int .i64 (whichI o ts) := by
 rcases ho with rfl | ⟨m, hm, rfl⟩
 ·
  exact c_which_nil v wI
 ·
  have hn := hN m hm
  refine c_which v ts m.T m.b wI hlen hE hN (ptrT_of hn) ?_
  obtain ⟨n, T', f, bb, g, _, _, h1, _⟩ := hn
  exact ⟨_, _, _, h1⟩
theorem ret_cells {N : Nat} {e : Env} {w w0 : World} {F : Foot} {G G1 G2 : List Assn} {fn : Func} {r s T n b b' : Nat} {U T1 T2 : Nat} {f g : Nat → Value} [One Tryz.prog T] [Agg Tryz.prog U n] (hr : fn.results = #[.cell r T, .cell s U]) (h1 : e r = some (.pointer (some ⟨b, 0, none⟩))) (h2 : e s = some (.pointer (some ⟨b', 0, none⟩)))
  (hs : St w0 F w G) (hp : Pick G (pt b T1 1 f) G1) (hp' : Pick G (pt b' T2 n g) G2) (a : Act) (ha : Sh N e a) : (results fn a.tmps).run Tryz.prog w = .ok (.tuple #[f 0, .agg (mkA n g)]) w := by
 have e1 := ha.get _ _ h1
 have e2 := ha.get _ _ h2
 rw [Array.getD_eq_getD_getElem?] at e1 e2
 have l1 := rl_load1 (P := Tryz.prog) (w := w) (T := T) (b := b) (o := 0) (v := f 0) (pt_cell (hs.cell hp) 0 (by omega))
 have l2 := rl_loadA (P := Tryz.prog) (w := w) (T := U) (b := b') (o := 0) (g := g) fun i hi => by rw [Nat.zero_add]; exact pt_cell (hs.cell hp') i hi
 simp only [Instr.loadAt, Instr.sureAddr, Sem.run_bind, Sem.run_pure, Result.andThen_ok] at l1 l2
 simp [results, hr, e1, e2, asAddr, l1, l2]
/-- Where ParentTree says that the parent of the node with an index lies. -/
def parentI (s : Sp) (i : Int) : Int := if (s.size : Int) ≤ i then -1 else (s.par[i.toNat]?).getD 0
theorem c_ParentTree {Γ : Glob} {T : ByteArray → Prop} (hn : ToNumberOK Γ T) (hpb : ParseBoolOK) (r : Rose) (hg : Good T r) (hsz : r.size ≤ 1000000) (i : Int) (hi : 1 ≤ i) (w : World) (hG : Γ.p w) (hR : RepN w r) :
  Quiet Tryz.prog 7 [.agg (mkA 19 (nc r.n)), .int .i64 i] w fun v => v = .tuple #[.int .i64 (parentI r.shape i), .agg (mkA 6 (cl [.int .i64 0, .int .i64 0, .int .i64 0, .int .i64 0, .int .i64 0, .int .i64 0]))] := by
 have hs := St.startNone w
 have hcatch : ∀ (p q : Nat) (w2 : World), CallsD Tryz.prog 10 #[.pointer (some ⟨p, 0, none⟩), .pointer (some ⟨q, 0, none⟩)] .returning w2 (fun en u w3 => (∃ v, en = .returned v) ∧ u = .returning ∧ w3 = w2) := fun p q w2 =>
  (catch_idle ⟨p, 0, none⟩ ⟨q, 0, none⟩ w2).mono fun en u w3 ⟨h1, h2, h3⟩ => ⟨⟨_, h1⟩, h2, h3⟩
 refine calls_WD (args := [_, _]) Tryz.func7 rfl Tryz.ntmps7 rfl ?_
 refine WD_seq ?_
 refine WD_reg ?_
 refine kd_box hs rfl rfl ?_
 intro b2 _ hs
 refine kd_alloc hs rfl ?_
 intro b4 _ hs
 refine kd_alloc hs rfl ?_
 intro b5 _ hs
 refine WLD_th ?_
 refine WD_seq ?_
 refine WD_reg ?_
 refine sd_makeFunc (.cons rfl (.cons rfl .nil)) rfl ?_
 refine sd_defer rfl ?_
 refine WLD_th ?_
 refine WD_seq ?_
 refine WD_reg ?_
 refine kd_ldW hs rfl .t2 rfl ?_
 refine kd_fresh (c_build hn hpb _ r (Nat.le_refl _) hsz hg _ (Γ.keep _ _ hG hs.keep.sames) (hR.keep hs.keep.sames)) hs (.cons rfl .nil) rfl ?_
 rintro _ wB _ ⟨t, rfl, rfl, hsh, _⟩ hs _
 obtain ⟨S0, ⟨hRep, hnd, _⟩, hs⟩ := hs.toSnap
 have hRA := hRep t (by simp)
 rw [pres_one] at hnd
 have hkeys := keys_nodup hnd
 have htsz : t.size = r.size := by rw [← at_size, hsh, rose_size]
 refine sd_pu (p_assign rfl) rfl ?_
 refine WLD_th ?_
 refine WD_seq ?_
 refine WD_reg ?_
 refine sd_pu (p_move rfl) rfl ?_
 refine kd_spec [snap wB S0] (c_visited t wB S0 hRA (by omega)) hs (.cons rfl .nil) rfl ?_
 rintro v12 wV _ rfl hs
 obtain ⟨S1, hrow⟩ := hs.pick .t1
 have hE := (elems_of_row hrow).keep (SameOn.refl _ _) (S' := fun _ => True) (fun _ _ => trivial)
 have hRV := hRA.keep (hs.same .head) (S' := fun _ => True) (fun _ _ => trivial)
 have hNV := nodes_at t hRV
 obtain ⟨ad, cap, rfl, hall⟩ := hE.out
 have hlen : (t.pre.map AT.val).length = r.size := by rw [List.length_map, pre_length, htsz]
 refine sd_pu (p_assign rfl) rfl ?_
 refine WLD_th ?_
 refine WD_seq ?_
 refine WD_seq ?_
 refine WD_reg ?_
 refine sd_pu (p_move rfl) rfl ?_
 refine sd_pu (v := .bool false) (by have h0 : decide (i < 0) = false := decide_eq_false (by omega); rw [← h0]; exact p_ltI rfl rfl) rfl ?_
 refine sd_pu (p_move rfl) rfl ?_
 refine gd_take rfl rfl rfl ?_
 refine sd_pu (p_move rfl) rfl ?_
 refine gd_take rfl rfl rfl ?_
 refine sd_pu (p_move rfl) rfl ?_
 refine gd_take rfl rfl rfl ?_
 refine sd_pu (p_lenL rfl) rfl ?_
 refine gd_take rfl rfl rfl ?_
 refine sd_pu (p_geI rfl rfl) rfl ?_
 refine sd_pu (p_pickF rfl rfl) rfl ?_
 refine WLD_th ?_
 refine WD_if rfl (fun hge => ?_) (fun hge => ?_)
 ·
  refine WD_seq ?_
  refine WD_reg ?_
  refine sd_pu (p_st .nil) rfl ?_
  refine kd_st hs rfl rfl .t3 rfl rfl ?_
  intro _ hs
  refine kd_stW hs rfl rfl .t2 (by repeat (first | exact below_zero | refine below_succ ?_ rfl)) ?_
  intro _ hs
  refine WLD_th ?_
  refine WD_ret ?_
  refine ⟨10, _, _, rfl, ⟨Tryz.f10, Tryz.func10, by decide, rfl⟩, hcatch _ _ _, _, ret_cells (fn := Tryz.f7) rfl rfl rfl hs .t3 .t2, ?_, hs.keep0⟩
  have hle := of_decide_eq_true hge
  have : parentI r.shape i = -1 := by unfold parentI; rw [rose_size, if_pos (by omega)]
  rw [this]
  rfl
 ·
  refine WD_skip ?_
  show WD _ _ _ _ _ _ _
  refine WD_seq ?_
  refine WD_reg ?_
  have hlt : ¬ ((t.pre.map AT.val).length : Int) ≤ i := of_decide_eq_false hge
  have hj : i.toNat < t.pre.length := by rw [List.length_map] at hlt; omega
  obtain ⟨k, hki⟩ : ∃ k, t.pre[i.toNat]? = some k := ⟨_, List.getElem?_eq_getElem hj⟩
  have hkm := List.mem_of_getElem? hki
  obtain ⟨x, hx1, hx2⟩ := parent_at t i.toNat k hkeys (by omega) hki
  refine sd_pu (p_move rfl) rfl ?_
  refine sd_pu (p_move rfl) rfl ?_
  refine sd_pu (p_move rfl) rfl ?_
  refine sd_pu (p_move rfl) rfl ?_
  obtain ⟨rb, rfl, hcell⟩ := hall i.toNat k.val (by simp [hki])
  refine sd_pu (p_elem rfl rfl (by omega) (by omega)) rfl ?_
  refine kdc_ldv (hcell _ (SameOn.refl _ _)) rfl rfl rfl ?_
  refine kd_quiet (c_Parent t k.T k.b wV (by omega) hRV (by obtain ⟨n, T', f, bb, g, _, _, h1, _⟩ := hNV k hkm; exact ⟨_, _, _, h1⟩)) hs (.cons rfl (.cons rfl .nil)) rfl ?_
  rintro _ wP rfl hs hkP
  refine kd_quiet (c_which_any _ t.pre _ wP (by rw [pre_length]; omega) (hE.keep (hkP.sames.on _) (fun _ => id)) (fun m hm => (hNV m hm).keep (hkP.sames.on _) (fun _ => id)) (find_mem t.key k.key t i.toNat k hkeys hki)) hs (.cons rfl (.cons rfl .nil)) rfl ?_
  rintro _ wW rfl hs _
  refine sd_pu (p_st .nil) rfl ?_
  refine kd_st hs rfl rfl .t3 rfl rfl ?_
  intro _ hs
  refine kd_stW hs rfl rfl .t2 (by repeat (first | exact below_zero | refine below_succ ?_ rfl)) ?_
  intro _ hs
  refine WLD_th ?_
  refine WD_ret ?_
  refine ⟨10, _, _, rfl, ⟨Tryz.f10, Tryz.func10, by decide, rfl⟩, hcatch _ _ _, _, ret_cells (fn := Tryz.f7) rfl rfl rfl hs .t3 .t2, ?_, hs.keep0⟩
  have : parentI r.shape i = whichI (findP t.key k.key t) t.pre := by
   unfold parentI
   rw [rose_size, if_neg (by omega), hx2, ← hsh, hx1]
   rfl
  rw [this]
  rfl
end Go.Proofs.YtmalghopogngoaaGreatDoor
set_option linter.unusedVariables false
set_option linter.unusedSimpArgs false
set_option maxRecDepth 4000
namespace Go.Proofs.YtmalghopogngoaaGreatDoor
open Go Go.RowKit MW
theorem rowL_row {v : Value} {T : Nat} {l : List Value} (w : World) (S : Foot) (h : (rowL v T l).on w S) : (row v T 1 l.length (fun i => l[i]?.getD undef)).on w S := h
theorem pars_snoc (s : Sp) : ∀ (l : List Sp) (a : Nat), pars a (l ++ [s]) = pars a l ++ s.par.map (fun z => if z < 0 then (0 : Int) else ((a + ssizes l : Nat) : Int) + z)
 | [], a => by simp [pars, ssizes]
 | k :: l, a => by simp [pars, pars_snoc s l, ssizes, Nat.add_assoc]
theorem take_shapes {ks : List Rose} {i : Nat} {k : Rose} (h : ks[i]? = some k) : rshapes (ks.take (i + 1)) = rshapes (ks.take i) ++ [k.shape] := take_succ_snoc h
theorem sizes_take {ks : List Rose} {i : Nat} {k : Rose} (h : ks[i]? = some k) : ssizes (rshapes (ks.take i)) + k.size ≤ rsizes ks := by
 have h1 : ks = ks.take i ++ k :: ks.drop (i + 1) := by
  have := List.take_append_drop i ks
  rw [List.drop_eq_getElem?_toList_append, h] at this
  simpa using this.symm
 have key : ∀ a b : List Rose, rsizes (a ++ b) = rsizes a + rsizes b := by
  intro a b
  induction a with
  | nil => simp [rsizes]
  | cons c a ih => simp [rsizes, ih]; omega
 have h2 := congrArg rsizes h1
 rw [key] at h2
 simp only [rsizes] at h2
 rw [rose_sizes]
 omega
theorem par_bound {s : Sp} {j : Nat} {x : Int} (h : s.par[j]? = some x) : -1 ≤ x ∧ x < s.size := by
 have hlt := (List.getElem?_eq_some_iff.1 h).1
 rw [par_length] at hlt
 by_cases hj : j = 0
 ·
  subst hj
  rw [par_zero] at h
  obtain rfl := Option.some.inj h
  omega
 ·
  have := par_pos s j x (by omega) h
  omega
def ParentsOK (r : Rose) : Prop := ∀ w, RepN w r → Fresh Tryz.prog 6 [.agg (mkA 19 (nc r.n))] w fun v G => G = [rowL v 3 (r.shape.par.map (Value.int .i64))]
theorem rowL_cell {w : World} {v : Value} {T : Nat} {l : List Value} {S : Foot} (h : (rowL v T l).on w S) : ∃ ad cap, v = .slice ad l.length cap ∧ ∀ (i : Nat) (x : Value), l[i]? = some x → ∃ b, ad = some ⟨b, 0, none⟩ ∧ w.cell? ⟨b, 0 + i * 1, none⟩ = some x := by
 obtain ⟨ad, cap, h1, h2⟩ := (elems_of_row h).out
 exact ⟨ad, cap, h1, fun i x hx => let ⟨b, hb, hc⟩ := h2 i x hx; ⟨b, hb, hc w (SameOn.refl _ _)⟩⟩
theorem c_Parents1 (n : NRec) (ks : List Rose) (hsz : (Rose.mk n ks).size ≤ 1000000) (hP : ∀ k ∈ ks, ParentsOK k) : ParentsOK (.mk n ks) := by
 intro wI hR
 have hs := St.startNone wI
 have hRk : ∀ k ∈ ks, RepN wI k := hR.all
 have hK := hR.kids
 obtain ⟨kind, typ, value, text, origin, flow, pl, pc, po, kv⟩ := n
 obtain ⟨ad, cap, hv, hall⟩ := hK.out
 obtain rfl : kv = .slice ad ks.length cap := hv
 have hlk := length_size ks
 simp only [Rose.size] at hsz
 refine calls_W (args := [_]) Tryz.func6 rfl Tryz.ntmps6 rfl ?_
 refine W_sr ?_
 refine k_box hs rfl rfl ?_
 intro b1 _ hs
 refine s_pu (p_assign rfl) rfl ?_
 refine WL_th ?_
 refine W_sr ?_
 refine k_bs hs (.one rfl rfl rfl .nil) rfl rfl rfl ?_
 intro b9 _ hs
 have hs := hs.imp .head (pt_row (n := 1) (sz := 1) rfl (maxLen_big rfl))
 have hs := hs.imp .head (row_to (g := fun i => ([Value.int .i64 (-1)])[i]?.getD undef) (fun i hi => by have h0 : i = 0 := (by omega); subst h0; rfl))
 refine s_pu (p_assign rfl) rfl ?_
 refine WL_th ?_
 refine W_seq ?_
 refine W_sr ?_
 refine s_pu (p_field rfl) rfl ?_
 refine k_ld hs rfl .t1 rfl rfl ?_
 refine s_pu (p_lenL rfl) rfl ?_
 refine s_pu (p_move rfl) rfl ?_
 refine WL_th ?_
 refine W_block ?_
 have hs := hs.front .head
 have hs := St.cut (G1 := [_]) hs
 refine W_loop (α := Nat × Value) (fun x => (upd (upd (upd (upd emp 13 (.int .i64 x.1)) 12 (.int .i64 ks.length)) 11 (.slice ad ks.length cap)) 3 x.2)) (fun x w => x.1 ≤ ks.length ∧ St wI (fun _ => False) w [rowL x.2 3 (((-1 :: pars 1 (rshapes (ks.take x.1)))).map (Value.int .i64))]) (fun x => ks.length - x.1) (0, .slice (some ⟨b9, 0, none⟩) 1 1) (Ext.cons rfl (Ext.cons rfl (Ext.cons rfl (Ext.cons rfl (Ext.nil _))))) ⟨Nat.zero_le _, hs⟩ (fun x w hx => ?_)
 obtain ⟨hle, hs⟩ := hx
 refine W_sr ?_
 refine s_pu (p_ltI rfl rfl) rfl ?_
 refine WL_th ?_
 refine W_seq ?_
 refine W_if rfl (fun h11 => ?_) (fun h11 => ?_)
 ·
  have hlt : x.1 < ks.length := by simpa using h11
  obtain ⟨k, hki⟩ : ∃ k, ks[x.1]? = some k := ⟨_, List.getElem?_eq_getElem hlt⟩
  have hkm := List.mem_of_getElem? hki
  have hRk1 := hRk k hkm
  have hst := sizes_take hki
  have hpl : k.shape.par.length = k.size := by rw [par_length, rose_size]
  have hll : (pars 1 (rshapes (ks.take x.1))).length = ssizes (rshapes (ks.take x.1)) := pars_length _ _
  refine W_skip_th ?_
  refine W_seq ?_
  refine W_block ?_
  refine W_sr ?_
  obtain ⟨b0, hb0, hcell⟩ := hall _ _ hki
  refine s_pu (p_elem (by show some (Value.slice ad ks.length cap) = _; rw [hb0]) rfl (by omega) (by omega)) rfl ?_
  have hcell1 := cell_old hs hcell
  refine s_at (m_loadA (n := 19) (g := nc k.n) rfl (by rw [Int.toNat_natCast]; exact hcell1)) rfl ?_
  refine k_alloc hs rfl ?_
  intro b5 _ hs
  refine k_stW hs rfl rfl .head (nc_one hRk1.one) ?_
  intro _ hs
  refine WL_th ?_
  refine W_sr ?_
  refine s_pu (p_move rfl) rfl ?_
  obtain ⟨S1, hrow⟩ := hs.pick .t1
  obtain ⟨ad1, cap1, hv1, _⟩ := rowL_cell hrow
  refine s_pu (p_lenL (ad := ad1) (l := 1 + ssizes (rshapes (ks.take x.1))) (c := cap1) (by show some x.2 = _; rw [hv1]; simp [hll, Nat.add_comm])) rfl ?_
  refine s_pu (p_assign rfl) rfl ?_
  refine WL_th ?_
  refine W_sr ?_
  refine k_ldW hs rfl .head rfl ?_
  refine k_fresh (hP k hkm _ (hRk1.keep hs.keep.sames)) hs (.cons rfl .nil) rfl ?_
  rintro v20 _ _ rfl hs _
  obtain ⟨S2, hrow2⟩ := hs.pick .head
  obtain ⟨ad2, cap2, rfl, _⟩ := rowL_cell hrow2
  refine s_pu (p_lenL rfl) rfl ?_
  refine s_pu (p_move rfl) rfl ?_
  refine WL_th ?_
  refine W_block ?_
  have hs := hs.front .head
  have hs := hs.front .t2
  have hs := St.cut (G1 := [_, _]) hs
  refine W_loop (α := Nat × Value) (fun y => (upd (upd (upd (upd (upd (upd (upd (upd emp 22 (.int .i64 y.1)) 21 (.int .i64 (k.shape.par.map (Value.int .i64)).length)) 20 (.slice ad2 (k.shape.par.map (Value.int .i64)).length cap2)) 13 (.int .i64 x.1)) 12 (.int .i64 ks.length)) 11 (.slice ad ks.length cap)) 6 (.int .i64 ((1 + ssizes (rshapes (ks.take x.1)) : Nat) : Int))) 3 y.2)) (fun y w => y.1 ≤ k.shape.par.length ∧ St wI (fun _ => False) w [rowL y.2 3 (((-1 :: pars 1 (rshapes (ks.take x.1))) ++ (k.shape.par.take y.1).map (fun z => if z < 0 then (0 : Int) else ((1 + ssizes (rshapes (ks.take x.1)) : Nat) : Int) + z)).map (Value.int .i64)), rowL (.slice ad2 (k.shape.par.map (Value.int .i64)).length cap2) 3 (k.shape.par.map (Value.int .i64))]) (fun y => k.shape.par.length - y.1) (0, x.2) (Ext.cons rfl (Ext.cons rfl (Ext.cons rfl (Ext.cons rfl (Ext.cons rfl (Ext.cons rfl (Ext.cons rfl (Ext.cons rfl (Ext.nil _))))))))) ⟨Nat.zero_le _, by simpa using hs⟩ (fun y w hx => ?_)
  obtain ⟨hley, hs⟩ := hx
  refine W_sr ?_
  refine s_pu (p_ltI rfl rfl) rfl ?_
  refine WL_th ?_
  refine W_seq ?_
  refine W_if rfl (fun h23 => ?_) (fun h23 => ?_)
  ·
   have hlty : y.1 < k.shape.par.length := by simpa using h23
   obtain ⟨z, hx1⟩ : ∃ z, k.shape.par[y.1]? = some z := ⟨_, List.getElem?_eq_getElem hlty⟩
   have hzb := par_bound hx1
   rw [rose_size] at hzb
   refine W_skip_th ?_
   refine W_seq ?_
   refine W_block ?_
   refine W_sr ?_
   obtain ⟨S3, hrow3⟩ := hs.pick .t1
   obtain ⟨ad3, cap3, hv3, hc3⟩ := rowL_cell hrow3
   obtain ⟨b3, rfl, hcell3⟩ := hc3 y.1 (.int .i64 z) (by simp [hx1])
   injection hv3 with hv3a hv3b hv3c
   subst hv3a
   refine s_pu (p_elem rfl rfl (by omega) (by simp; omega)) rfl ?_
   refine kc_ldv hcell3 rfl rfl rfl ?_
   refine s_pu (p_assign rfl) rfl ?_
   refine WL_th ?_
   refine W_sr ?_
   refine s_pu (p_move rfl) rfl ?_
   refine s_pu (p_ltI rfl rfl) rfl ?_
   refine WL_th ?_
   refine W_if rfl (fun h27 => ?_) (fun h27 => ?_)
   ·
    refine W_reg ?_
    refine s_pu (p_move rfl) rfl ?_
    refine k_bs hs (.one rfl rfl rfl .nil) rfl rfl rfl ?_
    intro b29 _ hs
    have hs := hs.front .t1
    have hs := hs.imp .head rowL_row
    refine k_app hs rfl rfl .head rfl (by intro i hi; have h0 : i = 0 := (by omega); subst h0; rfl) (by simp; omega) (by simp; omega) rfl ?_
    intro v30 _ hs
    have hs := hs.imp .head rowL_snoc
    refine s_pu (p_assign rfl) rfl ?_
    refine WL_nil ?_
    show W _ _ _ _ _ _
    refine W_reg ?_
    refine s_pu (p_addI rfl rfl ?_) rfl ?_
    ·
     (first | assumption | omega)
    refine s_pu (p_move rfl) rfl ?_
    refine WL_th ?_
    have hs := hs.front .t2
    have hs := hs.front .t1
    have hs := St.cut (G1 := [_, _]) hs
    refine ⟨(y.1 + 1, v30), (Ext.cons rfl (Ext.cons rfl (Ext.cons rfl (Ext.cons rfl (Ext.cons rfl (Ext.cons rfl (Ext.cons rfl (Ext.cons (by show some (Value.int .i64 ((y.1 : Int) + 1)) = _; simp) (Ext.nil _))))))))), ⟨by omega, ?_⟩, by omega⟩
    have e1 : (-1 :: pars 1 (rshapes (ks.take x.1))) ++ (k.shape.par.take (y.1 + 1)).map (fun z => if z < 0 then (0 : Int) else ((1 + ssizes (rshapes (ks.take x.1)) : Nat) : Int) + z) = ((-1 :: pars 1 (rshapes (ks.take x.1))) ++ (k.shape.par.take y.1).map (fun z => if z < 0 then (0 : Int) else ((1 + ssizes (rshapes (ks.take x.1)) : Nat) : Int) + z)) ++ [(0 : Int)] := by rw [List.take_add_one, hx1]; simp [of_decide_eq_true h27]
    show St _ _ _ [rowL v30 3 (((-1 :: pars 1 (rshapes (ks.take x.1))) ++ (k.shape.par.take (y.1 + 1)).map (fun z => if z < 0 then (0 : Int) else ((1 + ssizes (rshapes (ks.take x.1)) : Nat) : Int) + z)).map (Value.int .i64)), _]
    rw [e1, List.map_append]
    exact hs
   ·
    refine W_reg ?_
    refine s_pu (p_move rfl) rfl ?_
    refine s_pu (p_move rfl) rfl ?_
    refine s_pu (p_move rfl) rfl ?_
    refine s_pu (p_addI rfl rfl ?_) rfl ?_
    ·
     omega
    refine k_bs hs (.one rfl rfl rfl .nil) rfl rfl rfl ?_
    intro b35 _ hs
    have hs := hs.front .t1
    have hs := hs.imp .head rowL_row
    refine k_app hs rfl rfl .head rfl (by intro i hi; have h0 : i = 0 := (by omega); subst h0; rfl) (by simp; omega) (by simp; omega) rfl ?_
    intro v30 _ hs
    have hs := hs.imp .head rowL_snoc
    refine s_pu (p_assign rfl) rfl ?_
    refine WL_nil ?_
    show W _ _ _ _ _ _
    refine W_forget (Ext.cd 3 rfl (Ext.cd 6 rfl (Ext.cd 11 rfl (Ext.cd 12 rfl (Ext.cd 13 rfl (Ext.cd 20 rfl (Ext.cd 21 rfl (Ext.cd 22 rfl (Ext.nil _))))))))) ?_
    refine W_reg ?_
    refine s_pu (p_addI rfl rfl ?_) rfl ?_
    ·
     (first | assumption | omega)
    refine s_pu (p_move rfl) rfl ?_
    refine WL_th ?_
    have hs := hs.front .t2
    have hs := hs.front .t1
    have hs := St.cut (G1 := [_, _]) hs
    refine ⟨(y.1 + 1, v30), (Ext.cons rfl (Ext.cons rfl (Ext.cons rfl (Ext.cons rfl (Ext.cons rfl (Ext.cons rfl (Ext.cons rfl (Ext.cons (by show some (Value.int .i64 ((y.1 : Int) + 1)) = _; simp) (Ext.nil _))))))))), ⟨by omega, ?_⟩, by omega⟩
    have e1 : (-1 :: pars 1 (rshapes (ks.take x.1))) ++ (k.shape.par.take (y.1 + 1)).map (fun z => if z < 0 then (0 : Int) else ((1 + ssizes (rshapes (ks.take x.1)) : Nat) : Int) + z) = ((-1 :: pars 1 (rshapes (ks.take x.1))) ++ (k.shape.par.take y.1).map (fun z => if z < 0 then (0 : Int) else ((1 + ssizes (rshapes (ks.take x.1)) : Nat) : Int) + z)) ++ [(((1 + ssizes (rshapes (ks.take x.1)) : Nat) : Int) + z)] := by rw [List.take_add_one, hx1]; simp [of_decide_eq_false h27]
    show St _ _ _ [rowL v30 3 (((-1 :: pars 1 (rshapes (ks.take x.1))) ++ (k.shape.par.take (y.1 + 1)).map (fun z => if z < 0 then (0 : Int) else ((1 + ssizes (rshapes (ks.take x.1)) : Nat) : Int) + z)).map (Value.int .i64)), _]
    rw [e1, List.map_append]
    exact hs
  ·
   refine W_exit ?_
   show W _ _ _ _ _ _
   refine W_reg ?_
   refine s_pu (p_addI rfl rfl ?_) rfl ?_
   ·
    (first | assumption | omega)
   refine s_pu (p_move rfl) rfl ?_
   refine WL_th ?_
   have hs := hs.front .head
   have hs := St.cut (G1 := [_]) hs
   refine ⟨(x.1 + 1, y.2), (Ext.cons rfl (Ext.cons rfl (Ext.cons rfl (Ext.cons (by show some (Value.int .i64 ((x.1 : Int) + 1)) = _; simp) (Ext.nil _))))), ⟨by omega, ?_⟩, by omega⟩
   have e1 : (-1 : Int) :: pars 1 (rshapes (ks.take (x.1 + 1))) = (-1 :: pars 1 (rshapes (ks.take x.1))) ++ k.shape.par.map (fun z => if z < 0 then (0 : Int) else ((1 + ssizes (rshapes (ks.take x.1)) : Nat) : Int) + z) := by rw [take_shapes hki, pars_snoc]; rfl
   show St _ _ _ [rowL y.2 3 (((-1 : Int) :: pars 1 (rshapes (ks.take (x.1 + 1)))).map (Value.int .i64))]
   rw [e1]
   have hfull : y.1 = k.shape.par.length := by have : ¬ (y.1 < k.shape.par.length) := (by simpa using h23); omega
   rw [hfull, List.take_length] at hs
   exact hs
 ·
  refine W_exit ?_
  show W _ _ _ _ _ _
  refine W_sr ?_
  refine s_pu (p_move rfl) rfl ?_
  refine s_pu (p_assign rfl) rfl ?_
  refine WL_th ?_
  refine W_ret ?_
  refine ret_tmp (fn := Tryz.f6) rfl rfl ?_
  have hfull : x.1 = ks.length := by have : ¬ (x.1 < ks.length) := (by simpa using h11); omega
  rw [hfull, List.take_length] at hs
  exact hs.fresh rfl
theorem c_Parents : ∀ (n : Nat) (r : Rose), r.size ≤ n → n ≤ 1000000 → ParentsOK r := by
 intro n
 induction n with
 | zero => intro r h; have := one_le_size r; omega
 | succ n ih =>
  intro r hsz hn
  obtain ⟨m, ks⟩ := r
  refine c_Parents1 m ks (by omega) fun k hk => ih k ?_ (by omega)
  have := mem_size hk
  simp only [Rose.size] at hsz
  omega
end Go.Proofs.YtmalghopogngoaaGreatDoor
set_option linter.unusedVariables false
set_option linter.unusedSimpArgs false
namespace Go.Proofs.YtmalghopogngoaaGreatDoor
open Go Go.RowKit MW
/-! ### rows of records: sz cells each, c a: those of a -/
def recs {α : Type} (sz : Nat) (c : α → Nat → Value) (l : List α) : Nat → Value := fun i => match l[i / sz]? with
 | some a => c a (i % sz)
 | none => undef
theorem recs_at {α : Type} {sz : Nat} {c : α → Nat → Value} {l : List α} {i j : Nat} {a : α} (h : l[i]? = some a) (hj : j < sz) : recs sz c l (i * sz + j) = c a j := by
 unfold recs
 have h1 : (i * sz + j) / sz = i := by
  rw [Nat.mul_comm, Nat.mul_add_div (by omega), Nat.div_eq_of_lt hj, Nat.add_zero]
 have h2 : (i * sz + j) % sz = j := by rw [Nat.mul_comm, Nat.mul_add_mod, Nat.mod_eq_of_lt hj]
 rw [h1, h2, h]
theorem recs_ext {sz n : Nat} {f g : Nat → Value} (h0 : 0 < sz) (h : ∀ i j, i < n → j < sz → f (i * sz + j) = g (i * sz + j)) : ∀ i, i < n * sz → f i = g i := fun i hi => by
 have h1 : i / sz < n := (Nat.div_lt_iff_lt_mul h0).2 hi
 have h2 := h (i / sz) (i % sz) h1 (Nat.mod_lt _ h0)
 have h3 : i / sz * sz + i % sz = i := by rw [Nat.mul_comm]; exact Nat.div_add_mod _ _
 rwa [h3] at h2
theorem cat_lt {f g : Nat → Value} {k i : Nat} (h : i < k) : cat f k g i = f i := by
 unfold cat
 have : Nat.blt i k = true := Nat.ble_eq_true_of_le h
 rw [this]
 rfl
theorem cat_ge {f g : Nat → Value} {k i : Nat} (h : k ≤ i) : cat f k g i = g (i - k) := by
 unfold cat
 have : Nat.blt i k = false := by
  cases hb : Nat.blt i k with
  | true => exact absurd (Nat.le_of_ble_eq_true hb) (by omega)
  | false => rfl
 rw [this]
 rfl
/-- One record more. -/
theorem recs_snoc {α : Type} {v : Value} {T sz : Nat} {c : α → Nat → Value} {l : List α} {a : α} {g : Nat → Value} (h0 : 0 < sz) (hg : ∀ j, j < sz → g j = c a j) (w : World) (S : Foot) (h : (row v T sz (l.length + 1) (cat (recs sz c l) (l.length * sz) g)).on w S) :
  (row v T sz (l ++ [a]).length (recs sz c (l ++ [a]))).on w S := by
 rw [show (l ++ [a]).length = l.length + 1 by simp]
 refine row_congr (recs_ext h0 fun i j hi hj => ?_) h
 by_cases hlt : i < l.length
 ·
  have h1 : i * sz + j < l.length * sz := by
   have : (i + 1) * sz ≤ l.length * sz := Nat.mul_le_mul_right _ hlt
   rw [Nat.add_mul, Nat.one_mul] at this
   omega
  rw [cat_lt h1, recs_at (List.getElem?_eq_getElem hlt) hj, recs_at (a := l[i]) (by rw [List.getElem?_append_left hlt, List.getElem?_eq_getElem hlt]) hj]
 ·
  have : i = l.length := by omega
  subst this
  rw [cat_ge (by omega), Nat.add_sub_cancel_left, hg j hj, recs_at (a := a) (by simp) hj]
/-! ### nodes -/
def rowN (v : Value) (rs : List Rose) : Assn := row v 31 19 rs.length (recs 19 (fun r : Rose => nc r.n) rs)
theorem kids_of_row {w : World} {S : Foot} {v : Value} {rs : List Rose} (h : (rowN v rs).on w S) : KidsAt w v rs := by
 rcases h with ⟨h1, h2, _⟩ | ⟨b, cap, cur, h1, h2, h3, h4, h5, h6, h7⟩
 ·
  exact .inl ⟨h1, List.eq_nil_of_length_eq_zero h2⟩
 ·
  refine .inr ⟨b, cap, cur, h1, h3, fun i k hk j hj => ?_⟩
  have hlt := (List.getElem?_eq_some_iff.1 hk).1
  have : (i + 1) * 19 ≤ rs.length * 19 := Nat.mul_le_mul_right _ hlt
  rw [h7 _ (by omega), recs_at hk hj]
theorem MW.St.seal_kids {w0 w : World} {F : Foot} {G : List Assn} {v : Value} {rs : List Rose} {n : NRec} (hs : St w0 F w (rowN v rs :: hold (fun w => ∀ k ∈ rs, RepN w k) :: G)) (hv : n.kids = v) : St w0 F w (hold (fun w => RepN w (.mk n rs)) :: G) :=
 hs.seal2 fun w S1 S2 h1 h2 => .mk (by rw [hv]; exact kids_of_row h1) (hold_now h2)
theorem MW.St.hold_imp {w0 w : World} {F : Foot} {G : List Assn} {R R' : World → Prop} (hs : St w0 F w (hold R :: G)) (h : ∀ w, R w → R' w) : St w0 F w (hold R' :: G) :=
 hs.imp .head fun w S hr w' hk => h w' (hr w' hk)
theorem MW.St.hold_and {w0 w : World} {F : Foot} {G : List Assn} {R R' : World → Prop} (hs : St w0 F w (hold R :: hold R' :: G)) : St w0 F w (hold (fun w => R w ∧ R' w) :: G) :=
 hs.seal2 fun w S1 S2 h1 h2 => ⟨hold_now h1, hold_now h2⟩
theorem Sat.holdT {w : World} {G : List Assn} {S : Foot} {R : World → Prop} (h : Sat w G S) (hR : ∀ w, R w) : Sat w (hold R :: G) S := .cons (S1 := fun _ => False) (fun w' _ => hR w') (fun _ => False.elim) h (fun _ => False.elim) (fun b => ⟨.inr, fun h => h.elim False.elim id⟩)
theorem MW.St.holdT {w0 w : World} {F : Foot} {G : List Assn} {R : World → Prop} (hs : St w0 F w G) (hR : ∀ w, R w) : St w0 F w (hold R :: G) := by
 obtain ⟨S, h, hF⟩ := hs.sat
 exact ⟨hs.keep, S, Sat.holdT h hR, hF⟩
/-! ### trees -/
structure TRec where
 kind : Int
 value : ByteArray
 anchor : ByteArray
 tag : ByteArray
 style : Int
 kids : Value
def tl (t : TRec) : List Value := [.int .i64 t.kind, .string t.value, .string t.anchor, .string t.tag, .int .i64 t.style, t.kids]
def tc (t : TRec) : Nat → Value := cl (tl t)
theorem tc_one {t : TRec} (h : t.kids.oneCell' = true) : ∀ i, i < 6 → (tc t i).oneCell' = true := by
 obtain ⟨kind, value, anchor, tag, style, kv⟩ := t
 exact below_succ (by repeat (first | exact below_zero | refine below_succ ?_ rfl)) h
inductive TT where
 | mk (t : TRec) (kids : List TT)
def TT.t : TT → TRec | .mk t _ => t
def TT.kids : TT → List TT | .mk _ k => k
mutual
def TT.size : TT → Nat | .mk _ ks => 1 + tsizes ks
def tsizes : List TT → Nat | [] => 0 | t :: ts => t.size + tsizes ts
end
/-- The slice v has the trees ks. -/
def TreesAt (w : World) (v : Value) (ks : List TT) : Prop :=
 ∃ ad cap, v = .slice ad ks.length cap ∧ ∀ (i : Nat) (k : TT), ks[i]? = some k → ∃ b o, ad = some ⟨b, o, none⟩ ∧ ∀ j, j < 6 → w.cell? ⟨b, o + i * 6 + j, none⟩ = some (tc k.t j)
theorem TreesAt.empty {w : World} {v : Value} (h : v = .slice none 0 0) : TreesAt w v [] := ⟨_, _, h, fun i k h => by simp at h⟩
inductive RepT (w : World) : TT → Prop where
 | mk {t : TRec} {ks : List TT} : TreesAt w t.kids ks → (∀ k ∈ ks, RepT w k) → RepT w (.mk t ks)
theorem RepT.kids {w : World} {r : TT} (h : RepT w r) : TreesAt w r.t.kids r.kids := by cases h with | mk h _ => exact h
theorem RepT.all {w : World} {r : TT} (h : RepT w r) : ∀ k ∈ r.kids, RepT w k := by cases h with | mk _ h => exact h
theorem TreesAt.keep {w w' : World} {v : Value} {ks : List TT} (h : TreesAt w v ks) (hk : Sames w w') : TreesAt w' v ks := by
 obtain ⟨ad, cap, h1, h2⟩ := h
 exact ⟨ad, cap, h1, fun i k hi => let ⟨b, o, h3, h4⟩ := h2 i k hi; ⟨b, o, h3, fun j hj => cell_same hk (h4 j hj)⟩⟩
theorem RepT.keep {w w' : World} {r : TT} (h : RepT w r) (hk : Sames w w') : RepT w' r := by
 induction h with
 | mk h1 _ ih => exact .mk (h1.keep hk) ih
theorem TreesAt.one {w : World} {v : Value} {ks : List TT} (h : TreesAt w v ks) : v.oneCell' = true := by
 obtain ⟨ad, cap, rfl, _⟩ := h
 rfl
/-- What the slice is; where its elements lie in whatever world they are. -/
theorem TreesAt.out {w : World} {v : Value} {ks : List TT} (h : TreesAt w v ks) : ∃ ad cap b o, v = .slice ad ks.length cap ∧ ∀ w', TreesAt w' v ks → ∀ (i : Nat) (k : TT), ks[i]? = some k → ad = some ⟨b, o, none⟩ ∧ ∀ j, j < 6 → w'.cell? ⟨b, o + i * 6 + j, none⟩ = some (tc k.t j) := by
 obtain ⟨ad, cap, rfl, _⟩ := h
 cases ad with
 | none =>
  refine ⟨none, cap, 0, 0, rfl, fun w' hw i k hk => ?_⟩
  obtain ⟨ad', cap', h1, h2⟩ := hw
  obtain ⟨b, o, h3, _⟩ := h2 i k hk
  subst h3
  cases h1
 | some a =>
  refine ⟨some a, cap, a.block, a.off, rfl, fun w' hw i k hk => ?_⟩
  obtain ⟨ad', cap', h1, h2⟩ := hw
  obtain ⟨b, o, h3, h4⟩ := h2 i k hk
  subst h3
  injection h1 with e1 e2 e3
  injection e1 with e1
  subst e1
  exact ⟨rfl, h4⟩
def rowT (v : Value) (ts : List TT) : Assn := row v 24 6 ts.length (recs 6 (fun r : TT => tc r.t) ts)
theorem trees_of_row {w : World} {S : Foot} {v : Value} {rs : List TT} (h : (rowT v rs).on w S) : TreesAt w v rs := by
 rcases h with ⟨h1, h2, _⟩ | ⟨b, cap, cur, h1, h2, h3, h4, h5, h6, h7⟩
 ·
  obtain rfl := List.eq_nil_of_length_eq_zero h2
  exact .empty h1
 ·
  refine ⟨_, cap, h1, fun i k hk => ⟨b, 0, rfl, fun j hj => ?_⟩⟩
  have hlt := (List.getElem?_eq_some_iff.1 hk).1
  have : (i + 1) * 6 ≤ rs.length * 6 := Nat.mul_le_mul_right _ hlt
  rw [Nat.zero_add]
  simp only [World.cell?, h3]
  show cur[i * 6 + j]? = _
  rw [h7 _ (by omega), recs_at hk hj]
theorem tmem_size {k : TT} : ∀ {ks : List TT}, k ∈ ks → k.size ≤ tsizes ks
 | a :: l, h => by
  rcases List.mem_cons.1 h with rfl | h
  ·
   simp [tsizes]
  ·
   have := tmem_size h
   simp only [tsizes]
   omega
theorem one_le_tsize (t : TT) : 1 ≤ t.size := by cases t; simp [TT.size]
theorem tsizes_app (a b : List TT) : tsizes (a ++ b) = tsizes a + tsizes b := by
 induction a with
 | nil => simp [tsizes]
 | cons c a ih => simp [tsizes, ih]; omega
theorem tsizes_take {ks : List TT} {i : Nat} {k : TT} (h : ks[i]? = some k) : tsizes (ks.take (i + 1)) = tsizes (ks.take i) + k.size := by
 have : ks.take (i + 1) = ks.take i ++ [k] := by rw [List.take_add_one, h]; rfl
 rw [this, tsizes_app]
 simp [tsizes]
theorem tsizes_take_le (ks : List TT) (i : Nat) : tsizes (ks.take i) ≤ tsizes ks := by
 have h := congrArg tsizes (List.take_append_drop i ks)
 rw [tsizes_app] at h
 omega
theorem tlength_size : ∀ (ks : List TT), ks.length ≤ tsizes ks
 | [] => by simp [tsizes]
 | a :: l => by
  have := tlength_size l
  have := one_le_tsize a
  simp only [tsizes, List.length_cons]
  omega
theorem rsizes_app (a b : List Rose) : rsizes (a ++ b) = rsizes a + rsizes b := by
 induction a with
 | nil => simp [rsizes]
 | cons c a ih => simp [rsizes, ih]; omega
end Go.Proofs.YtmalghopogngoaaGreatDoor
set_option linter.unusedVariables false
set_option linter.unusedSimpArgs false
set_option maxRecDepth 4000
namespace Go.Proofs.YtmalghopogngoaaGreatDoor
open Go Go.RowKit MW
/-- A place of the maker's. -/
def plC (l p : Int) : Nat → Value := cl [.int .i64 l, .int .i64 p, .int .i64 p, .int .i64 0, .int .i64 0]
def mkC (l c : Int) : Nat → Value := cl [.int .i64 l, .int .i64 c]
theorem c_place (mb : Nat) (l c : Int) (h1 : 1 ≤ c) (h2 : c ≤ 1000000000) : MW.Spec Tryz.prog 31 [.pointer (some ⟨mb, 0, none⟩)].toArray [pt mb 61 2 (mkC l c)] fun v G => ∃ p, v = .agg (mkA 5 (plC l p)) ∧ G = [pt mb 61 2 (mkC l (c + 1))] := by
 intro wI S hsat
 have hs := St.start hsat
 have hm1 := Int.tmod_nonneg 200 (show 0 ≤ c - 1 by omega)
 have hm2 := Int.tmod_lt_of_pos (c - 1) (show (0 : Int) < 200 by omega)
 refine calls_W (args := [_]) Tryz.func31 rfl Tryz.ntmps31 rfl ?_
 refine W_sr ?_
 refine k_alloc hs rfl ?_
 intro b2 _ hs
 refine WL_th ?_
 refine W_sr ?_
 refine s_pu (p_move rfl) rfl ?_
 refine s_pu (p_nilCheck rfl) rfl ?_
 refine s_pu (p_field rfl) rfl ?_
 refine k_ld hs rfl .t1 rfl rfl ?_
 refine s_pu (p_subI rfl rfl ?_) rfl ?_
 ·
  (first | assumption | omega)
 refine s_pu (p_rem rfl rfl ?_) rfl ?_
 ·
  (first | assumption | omega)
 refine s_pu (p_addI rfl rfl ?_) rfl ?_
 ·
  (first | assumption | omega)
 refine s_pu (p_assign rfl) rfl ?_
 refine WL_th ?_
 refine W_sr ?_
 refine s_pu (p_move rfl) rfl ?_
 refine s_pu (p_nilCheck rfl) rfl ?_
 refine s_pu (p_field rfl) rfl ?_
 refine k_ld hs rfl .t1 rfl rfl ?_
 refine s_pu (p_addI rfl rfl ?_) rfl ?_
 ·
  (first | assumption | omega)
 refine s_pu (p_nilCheck rfl) rfl ?_
 refine s_pu (p_field rfl) rfl ?_
 refine k_st hs rfl rfl .t1 rfl rfl ?_
 intro _ hs
 refine WL_th ?_
 refine W_forget (Ext.cd 0 rfl (Ext.cd 2 rfl (Ext.cd 3 rfl (Ext.nil _)))) ?_
 refine W_sr ?_
 refine s_pu (p_move rfl) rfl ?_
 refine s_pu (p_nilCheck rfl) rfl ?_
 refine s_pu (p_field rfl) rfl ?_
 refine k_ld hs rfl .t1 rfl rfl ?_
 refine s_pu (p_move rfl) rfl ?_
 refine s_pu (p_move rfl) rfl ?_
 refine s_pu (p_st (.one rfl rfl rfl (.one rfl rfl rfl (.one rfl rfl rfl .nil)))) rfl ?_
 refine k_stW hs rfl rfl .head (by repeat (first | exact below_zero | refine below_succ ?_ rfl)) ?_
 intro _ hs
 refine WL_th ?_
 refine W_ret ?_
 have hs := hs.front .t1
 have hs := hs.front .t1
 have hs := hs.imp .head (pt_to (g := plC l (1 + (c - 1).tmod 200)) (by repeat (first | exact below_zero | refine below_succ ?_ rfl)))
 have hs := hs.imp .t1 (pt_to (g := mkC l (c + 1)) (by repeat (first | exact below_zero | refine below_succ ?_ rfl)))
 refine ret_cell (fn := Tryz.f31) (n := 5) rfl rfl hs .head ?_
 exact (hs.drop .head).spec ⟨_, rfl, rfl⟩
theorem c_wrNode (k ty : Int) (text : ByteArray) (l p : Int) (wI : World) : Quiet Tryz.prog 30 [.int .i64 k, .int .i64 ty, .string text, .agg (mkA 5 (plC l p))] wI fun v => v = .agg (mkA 19 (nc ⟨k, ty, if k = 8 ∨ k = 19 then text else ⟨#[]⟩, text, text, false, l, p, p, .slice none 0 0⟩)) := by
 have hs := St.startNone wI
 refine calls_W (args := [_, _, _, _]) Tryz.func30 rfl Tryz.ntmps30 rfl ?_
 refine W_sr ?_
 refine k_box hs rfl rfl ?_
 intro b7 _ hs
 refine k_alloc hs rfl ?_
 intro b8 _ hs
 refine WL_th ?_
 refine W_sr ?_
 refine s_pu (p_move rfl) rfl ?_
 refine s_pu (p_move rfl) rfl ?_
 refine s_pu (p_move rfl) rfl ?_
 refine s_pu (p_move rfl) rfl ?_
 refine k_ldW hs rfl .t1 rfl ?_
 refine s_pu (p_st (.one rfl rfl rfl (.one rfl rfl rfl (.one rfl rfl rfl (.one rfl rfl rfl (.agg rfl rfl .nil)))))) rfl ?_
 refine k_alloc hs rfl ?_
 intro b9 _ hs
 refine k_stW (g := nc ⟨k, ty, ⟨#[]⟩, text, text, false, l, p, p, .slice none 0 0⟩) hs rfl ?_ .head (nc_one rfl) ?_
 ·
  show some (Value.agg (mkA 19 _)) = some (Value.agg (mkA 19 _))
  rw [mkA_congr (g := nc ⟨k, ty, ⟨#[]⟩, text, text, false, l, p, p, .slice none 0 0⟩) (by repeat (first | exact below_zero | refine below_succ ?_ rfl))]
 intro _ hs
 refine WL_th ?_
 refine W_seq ?_
 refine W_sr ?_
 refine s_pu (p_move rfl) rfl ?_
 refine s_pu (p_eqI rfl rfl) rfl ?_
 refine s_pu (p_move rfl) rfl ?_
 refine WL_cutb 3 21 [2, 8, 9] (fun b => b = (k == 8 || k == 19)) ?_ ?_
 ·
  refine s_bool 18 rfl (fun hb18 => ?_) (fun hb18 => ?_)
  ·
   refine g_skip rfl rfl rfl rfl rfl ?_
   refine g_skip rfl rfl rfl rfl rfl ?_
   refine s_pu (p_pickT rfl rfl) rfl ?_
   refine WL_th ⟨rfl, _, ?_, Ext.cons rfl (ext_kd rfl rfl (ext_kd rfl rfl (ext_kd rfl rfl ext_kn)))⟩
   rw [hb18]; rfl
  ·
   refine g_take rfl rfl rfl ?_
   refine s_pu (p_move rfl) rfl ?_
   refine g_take rfl rfl rfl ?_
   refine s_pu (p_eqI rfl rfl) rfl ?_
   refine s_pu (p_pickF rfl rfl) rfl ?_
   refine WL_th ⟨rfl, _, ?_, Ext.cons rfl (ext_kd rfl rfl (ext_kd rfl rfl (ext_kd rfl rfl ext_kn)))⟩
   rw [hb18]; rfl
 ·
  intro b21 hb21
  refine WL_forget (Ext.cd 2 rfl (Ext.cd 8 rfl (Ext.cd 9 rfl (Ext.cd 21 rfl (Ext.nil _))))) ?_
  show WL _ _ _ [] _ _ _
  refine WL_th ?_
  refine W_if rfl (fun h21 => ?_) (fun h21 => ?_)
  ·
   refine W_reg ?_
   refine s_pu (p_move rfl) rfl ?_
   refine s_pu (p_field rfl) rfl ?_
   refine k_st hs rfl rfl .head rfl rfl ?_
   intro _ hs
   refine WL_th ?_
   refine W_sr ?_
   refine k_ldW hs rfl .head rfl ?_
   refine k_stW (g := nc ⟨k, ty, if k = 8 ∨ k = 19 then text else ⟨#[]⟩, text, text, false, l, p, p, .slice none 0 0⟩) hs rfl ?_ .t1 (nc_one rfl) ?_
   ·
    show some (Value.agg (mkA 19 _)) = some (Value.agg (mkA 19 _))
    rw [mkA_congr (g := nc ⟨k, ty, if k = 8 ∨ k = 19 then text else ⟨#[]⟩, text, text, false, l, p, p, .slice none 0 0⟩) (by have hk : k = 8 ∨ k = 19 := (by rw [h21] at hb21; simpa using hb21.symm); rw [if_pos hk]; repeat (first | exact below_zero | refine below_succ ?_ rfl))]
   intro _ hs
   refine WL_th ?_
   refine W_ret ?_
   refine ret_cell (fn := Tryz.f30) rfl rfl hs .t1 ?_
   exact ⟨rfl, hs.keep0⟩
  ·
   refine W_skip_th ?_
   refine W_sr ?_
   refine k_ldW hs rfl .head rfl ?_
   refine k_stW (g := nc ⟨k, ty, if k = 8 ∨ k = 19 then text else ⟨#[]⟩, text, text, false, l, p, p, .slice none 0 0⟩) hs rfl ?_ .t1 (nc_one rfl) ?_
   ·
    show some (Value.agg (mkA 19 _)) = some (Value.agg (mkA 19 _))
    rw [mkA_congr (g := nc ⟨k, ty, if k = 8 ∨ k = 19 then text else ⟨#[]⟩, text, text, false, l, p, p, .slice none 0 0⟩) (by have hk : ¬ (k = 8 ∨ k = 19) := (by rw [h21] at hb21; simpa using hb21.symm); rw [if_neg hk]; repeat (first | exact below_zero | refine below_succ ?_ rfl))]
   intro _ hs
   refine WL_th ?_
   refine W_ret ?_
   refine ret_cell (fn := Tryz.f30) rfl rfl hs .t1 ?_
   exact ⟨rfl, hs.keep0⟩
end Go.Proofs.YtmalghopogngoaaGreatDoor
set_option linter.unusedVariables false
set_option linter.unusedSimpArgs false
set_option maxRecDepth 4000
namespace Go.Proofs.YtmalghopogngoaaGreatDoor
open Go Go.RowKit MW
/-- What Known tells, as far as the maker leans on it; T: what is known of the texts of numbers. -/
def KnownOK (T : ByteArray → Prop) : Prop := ∀ s w, s.size ≤ 1000 → Quiet Tryz.prog 59 [.string s] w fun v => ∃ k, v = .int .i64 k ∧ 0 ≤ k ∧ k ≤ 6 ∧ ((k = 2 ∨ k = 5) → 0 < s.size) ∧ (k = 2 → BoolText s) ∧ ((k = 3 ∨ k = 4) → T s)
def SignedOK (T : ByteArray → Prop) : Prop := ∀ s w, T s → Quiet Tryz.prog 82 [.string s] w fun v => ∃ u, v = .string u
theorem c_plain {T : ByteArray → Prop} (hKn : KnownOK T) (hSg : SignedOK T) (x : Value) (val s org : ByteArray) (fl : Bool) (l p q : Int) (hvs : s.size ≤ 1000) (wI : World) :
  Quiet Tryz.prog 62 [x, .string s, .agg (mkA 19 (nc ⟨8, 31, val, s, org, fl, l, p, q, .slice none 0 0⟩))] wI fun v => ∃ n, v = .agg (mkA 19 (nc n)) ∧ Good T (.mk n []) ∧ n.kids = .slice none 0 0 ∧ 2 ≤ n.kind ∧ n.kind ≤ 8 := by
 have hs := St.startNone wI
 refine calls_W (args := [_, _, _]) Tryz.func62 rfl Tryz.ntmps62 rfl ?_
 refine W_sr ?_
 refine k_box hs rfl rfl ?_
 intro b5 _ hs
 refine k_alloc hs rfl ?_
 intro b6 _ hs
 refine WL_th ?_
 refine W_join (fun e' w' => ∃ n z, Ext e' (upd (upd emp 6 (.pointer (some ⟨b6, 0, none⟩))) 5 (.pointer (some ⟨b5, 0, none⟩))) ∧ St wI (fun _ => False) w' [pt b5 31 19 (nc n), pt b6 31 19 z] ∧ Good T (.mk n []) ∧ n.kids = .slice none 0 0 ∧ 2 ≤ n.kind ∧ n.kind ≤ 8) ?_ ?_
 ·
  refine W_sr ?_
  refine s_pu (p_move rfl) rfl ?_
  refine k_quiet (hKn _ _ hvs) hs (.cons rfl .nil) rfl ?_
  rintro _ _ ⟨kk, rfl, _, _, hne, hBT, hT⟩ hs _
  refine WL_th ?_
  refine W_block ?_
  refine W_sr ?_
  refine s_pu (p_eqI rfl rfl) rfl ?_
  refine s_pu (p_assign rfl) rfl ?_
  refine WL_th ?_
  refine W_if rfl (fun h9 => ?_) (fun h9 => ?_)
  ·
   refine W_sr ?_
   refine s_pu (p_field rfl) rfl ?_
   refine k_st hs rfl rfl .t1 rfl rfl ?_
   intro _ hs
   refine s_pu (p_field rfl) rfl ?_
   refine k_st hs rfl rfl .t1 rfl rfl ?_
   intro _ hs
   refine s_pu (p_field rfl) rfl ?_
   refine k_st hs rfl rfl .t1 rfl rfl ?_
   intro _ hs
   refine WL_th ?_
   refine W_sr ?_
   refine s_pu (p_move rfl) rfl ?_
   refine s_pu (p_eqS rfl rfl) rfl ?_
   refine WL_th ?_
   refine W_forget (Ext.cd 5 rfl (Ext.cd 6 rfl (Ext.cd 15 rfl (Ext.nil _)))) ?_
   refine W_if rfl (fun h15 => ?_) (fun h15 => ?_)
   ·
    refine W_reg ?_
    refine s_pu (p_field rfl) rfl ?_
    refine k_st hs rfl rfl .t1 rfl rfl ?_
    intro _ hs
    refine WL_nil ?_
    show ∃ _, _
    have hs := hs.front .head
    have hs := hs.front .t1
    have hs := hs.imp .head (pt_to (g := nc ⟨2, 23, ⟨#[]⟩, s, org, fl, l, p, q, .slice none 0 0⟩) (by repeat (first | exact below_zero | refine below_succ ?_ rfl)))
    exact ⟨⟨2, 23, ⟨#[]⟩, s, org, fl, l, p, q, .slice none 0 0⟩, _, (Ext.cons rfl (Ext.cons rfl (Ext.nil _))), hs, (.leaf (by simp)), rfl, (show (2 : Int) ≤ 2 by decide), (show (2 : Int) ≤ 8 by decide)⟩
   ·
    refine W_skip ?_
    show ∃ _, _
    have hs := hs.front .head
    have hs := hs.front .t1
    have hs := hs.imp .head (pt_to (g := nc ⟨2, 22, ⟨#[]⟩, s, org, fl, l, p, q, .slice none 0 0⟩) (by repeat (first | exact below_zero | refine below_succ ?_ rfl)))
    exact ⟨⟨2, 22, ⟨#[]⟩, s, org, fl, l, p, q, .slice none 0 0⟩, _, (Ext.cons rfl (Ext.cons rfl (Ext.nil _))), hs, (.leaf (by simp)), rfl, (show (2 : Int) ≤ 2 by decide), (show (2 : Int) ≤ 8 by decide)⟩
  ·
   refine W_sr ?_
   refine s_pu (p_eqI rfl rfl) rfl ?_
   refine s_pu (p_assign rfl) rfl ?_
   refine WL_th ?_
   refine W_if rfl (fun h17 => ?_) (fun h17 => ?_)
   ·
    have e17 := eq_of_beq h17
    have hsz := hne (.inl e17)
    refine W_sr ?_
    refine s_pu (p_field rfl) rfl ?_
    refine k_st hs rfl rfl .t1 rfl rfl ?_
    intro _ hs
    refine s_pu (p_field rfl) rfl ?_
    refine k_st hs rfl rfl .t1 rfl rfl ?_
    intro _ hs
    refine s_pu (p_field rfl) rfl ?_
    refine k_st hs rfl rfl .t1 rfl rfl ?_
    intro _ hs
    refine WL_th ?_
    refine W_forget (Ext.cd 1 rfl (Ext.cd 5 rfl (Ext.cd 6 rfl (Ext.nil _)))) ?_
    refine W_sr ?_
    refine s_pu (p_move rfl) rfl ?_
    refine s_pu (p_indexS (by kernel_rfl) rfl rfl ?_ ?_) rfl ?_
    ·
     omega
    ·
     exact hsz
    refine s_pu (p_eqI rfl rfl) rfl ?_
    refine s_pu (p_move rfl) rfl ?_
    refine WL_cutb 4 29 [5, 6] (fun b => True) ?_ ?_
    ·
     refine s_bool 25 rfl (fun hb25 => ?_) (fun hb25 => ?_)
     ·
      refine g_skip rfl rfl rfl rfl rfl ?_
      refine g_skip rfl rfl rfl rfl rfl ?_
      refine g_skip rfl rfl rfl rfl rfl ?_
      refine s_pu (p_pickT rfl rfl) rfl ?_
      refine WL_th ⟨rfl, _, ?_, Ext.cons rfl (ext_kd rfl rfl (ext_kd rfl rfl ext_kn))⟩
      trivial
     ·
      refine g_take rfl rfl rfl ?_
      refine s_pu (p_move rfl) rfl ?_
      refine g_take rfl rfl rfl ?_
      refine s_pu (p_indexS (by kernel_rfl) rfl rfl ?_ ?_) rfl ?_
      ·
       omega
      ·
       exact hsz
      refine g_take rfl rfl rfl ?_
      refine s_pu (p_eqI rfl rfl) rfl ?_
      refine s_pu (p_pickF rfl rfl) rfl ?_
      refine WL_th ⟨rfl, _, ?_, Ext.cons rfl (ext_kd rfl rfl (ext_kd rfl rfl ext_kn))⟩
      trivial
    ·
     intro b29 hb29
     refine WL_forget (Ext.cd 5 rfl (Ext.cd 6 rfl (Ext.cd 29 rfl (Ext.nil _)))) ?_
     show WL _ _ _ [] _ _ _
     refine WL_th ?_
     refine W_if rfl (fun h29 => ?_) (fun h29 => ?_)
     ·
      refine W_reg ?_
      refine s_pu (p_field rfl) rfl ?_
      refine k_st hs rfl rfl .t1 rfl rfl ?_
      intro _ hs
      refine WL_nil ?_
      show ∃ _, _
      have hs := hs.front .head
      have hs := hs.front .t1
      have hs := hs.imp .head (pt_to (g := nc ⟨3, 32, ⟨#[116, 114, 117, 101]⟩, s, org, fl, l, p, q, .slice none 0 0⟩) (by repeat (first | exact below_zero | refine below_succ ?_ rfl)))
      exact ⟨⟨3, 32, ⟨#[116, 114, 117, 101]⟩, s, org, fl, l, p, q, .slice none 0 0⟩, _, (Ext.cons rfl (Ext.cons rfl (Ext.nil _))), hs, (.bool rfl (hBT e17)), rfl, (show (2 : Int) ≤ 3 by decide), (show (3 : Int) ≤ 8 by decide)⟩
     ·
      refine W_skip ?_
      show ∃ _, _
      have hs := hs.front .head
      have hs := hs.front .t1
      have hs := hs.imp .head (pt_to (g := nc ⟨3, 32, ⟨#[102, 97, 108, 115, 101]⟩, s, org, fl, l, p, q, .slice none 0 0⟩) (by repeat (first | exact below_zero | refine below_succ ?_ rfl)))
      exact ⟨⟨3, 32, ⟨#[102, 97, 108, 115, 101]⟩, s, org, fl, l, p, q, .slice none 0 0⟩, _, (Ext.cons rfl (Ext.cons rfl (Ext.nil _))), hs, (.bool rfl (hBT e17)), rfl, (show (2 : Int) ≤ 3 by decide), (show (3 : Int) ≤ 8 by decide)⟩
   ·
    refine W_sr ?_
    refine s_pu (p_eqI rfl rfl) rfl ?_
    refine s_pu (p_assign rfl) rfl ?_
    refine WL_th ?_
    refine W_if rfl (fun h31 => ?_) (fun h31 => ?_)
    ·
     have e31 := eq_of_beq h31
     refine W_reg ?_
     refine s_pu (p_move rfl) rfl ?_
     refine k_quiet (hSg _ _ (hT (.inl e31))) hs (.cons rfl .nil) rfl ?_
     rintro _ _ ⟨u34, rfl⟩ hs _
     refine s_pu (p_field rfl) rfl ?_
     refine k_st hs rfl rfl .t1 rfl rfl ?_
     intro _ hs
     refine s_pu (p_field rfl) rfl ?_
     refine k_st hs rfl rfl .t1 rfl rfl ?_
     intro _ hs
     refine s_pu (p_field rfl) rfl ?_
     refine k_st hs rfl rfl .t1 rfl rfl ?_
     intro _ hs
     refine WL_nil ?_
     show ∃ _, _
     have hs := hs.front .head
     have hs := hs.front .t1
     have hs := hs.imp .head (pt_to (g := nc ⟨4, 26, u34, s, org, fl, l, p, q, .slice none 0 0⟩) (by repeat (first | exact below_zero | refine below_succ ?_ rfl)))
     exact ⟨⟨4, 26, u34, s, org, fl, l, p, q, .slice none 0 0⟩, _, (Ext.cons rfl (Ext.cons rfl (Ext.nil _))), hs, (.num (.inl rfl) (hT (.inl e31))), rfl, (show (2 : Int) ≤ 4 by decide), (show (4 : Int) ≤ 8 by decide)⟩
    ·
     refine W_sr ?_
     refine s_pu (p_eqI rfl rfl) rfl ?_
     refine s_pu (p_assign rfl) rfl ?_
     refine WL_th ?_
     refine W_if rfl (fun h38 => ?_) (fun h38 => ?_)
     ·
      have e38 := eq_of_beq h38
      refine W_reg ?_
      refine s_pu (p_field rfl) rfl ?_
      refine k_st hs rfl rfl .t1 rfl rfl ?_
      intro _ hs
      refine s_pu (p_field rfl) rfl ?_
      refine k_st hs rfl rfl .t1 rfl rfl ?_
      intro _ hs
      refine WL_nil ?_
      show ∃ _, _
      have hs := hs.front .head
      have hs := hs.front .t1
      have hs := hs.imp .head (pt_to (g := nc ⟨5, 30, val, s, org, fl, l, p, q, .slice none 0 0⟩) (by repeat (first | exact below_zero | refine below_succ ?_ rfl)))
      exact ⟨⟨5, 30, val, s, org, fl, l, p, q, .slice none 0 0⟩, _, (Ext.cons rfl (Ext.cons rfl (Ext.nil _))), hs, (.num (.inr rfl) (hT (.inr e38))), rfl, (show (2 : Int) ≤ 5 by decide), (show (5 : Int) ≤ 8 by decide)⟩
     ·
      refine W_sr ?_
      refine s_pu (p_eqI rfl rfl) rfl ?_
      refine s_pu (p_assign rfl) rfl ?_
      refine WL_th ?_
      refine W_forget (Ext.cd 1 rfl (Ext.cd 5 rfl (Ext.cd 6 rfl (Ext.cd 8 rfl (Ext.cd 42 rfl (Ext.nil _)))))) ?_
      refine W_if rfl (fun h42 => ?_) (fun h42 => ?_)
      ·
       have e42 := eq_of_beq h42
       have hsz := hne (.inr e42)
       refine W_sr ?_
       refine s_pu (p_field rfl) rfl ?_
       refine k_st hs rfl rfl .t1 rfl rfl ?_
       intro _ hs
       refine s_pu (p_field rfl) rfl ?_
       refine k_st hs rfl rfl .t1 rfl rfl ?_
       intro _ hs
       refine s_pu (p_field rfl) rfl ?_
       refine k_st hs rfl rfl .t1 rfl rfl ?_
       intro _ hs
       refine WL_th ?_
       refine W_sr ?_
       refine s_pu (p_move rfl) rfl ?_
       refine s_pu (p_indexS (by kernel_rfl) rfl rfl ?_ ?_) rfl ?_
       ·
        omega
       ·
        exact hsz
       refine s_pu (p_eqI rfl rfl) rfl ?_
       refine WL_th ?_
       refine W_if rfl (fun h49 => ?_) (fun h49 => ?_)
       ·
        refine W_reg ?_
        refine s_pu (p_field rfl) rfl ?_
        refine k_st hs rfl rfl .t1 rfl rfl ?_
        intro _ hs
        refine WL_nil ?_
        show ∃ _, _
        have hs := hs.front .head
        have hs := hs.front .t1
        have hs := hs.imp .head (pt_to (g := nc ⟨6, 24, ⟨#[45, 73, 110, 102]⟩, s, org, fl, l, p, q, .slice none 0 0⟩) (by repeat (first | exact below_zero | refine below_succ ?_ rfl)))
        exact ⟨⟨6, 24, ⟨#[45, 73, 110, 102]⟩, s, org, fl, l, p, q, .slice none 0 0⟩, _, (Ext.cons rfl (Ext.cons rfl (Ext.nil _))), hs, (.leaf (by simp)), rfl, (show (2 : Int) ≤ 6 by decide), (show (6 : Int) ≤ 8 by decide)⟩
       ·
        refine W_skip ?_
        show ∃ _, _
        have hs := hs.front .head
        have hs := hs.front .t1
        have hs := hs.imp .head (pt_to (g := nc ⟨6, 24, ⟨#[43, 73, 110, 102]⟩, s, org, fl, l, p, q, .slice none 0 0⟩) (by repeat (first | exact below_zero | refine below_succ ?_ rfl)))
        exact ⟨⟨6, 24, ⟨#[43, 73, 110, 102]⟩, s, org, fl, l, p, q, .slice none 0 0⟩, _, (Ext.cons rfl (Ext.cons rfl (Ext.nil _))), hs, (.leaf (by simp)), rfl, (show (2 : Int) ≤ 6 by decide), (show (6 : Int) ≤ 8 by decide)⟩
      ·
       refine W_sr ?_
       refine s_pu (p_eqI rfl rfl) rfl ?_
       refine s_pu (p_assign rfl) rfl ?_
       refine WL_th ?_
       refine W_if rfl (fun h51 => ?_) (fun h51 => ?_)
       ·
        refine W_reg ?_
        refine s_pu (p_field rfl) rfl ?_
        refine k_st hs rfl rfl .t1 rfl rfl ?_
        intro _ hs
        refine s_pu (p_field rfl) rfl ?_
        refine k_st hs rfl rfl .t1 rfl rfl ?_
        intro _ hs
        refine s_pu (p_field rfl) rfl ?_
        refine k_st hs rfl rfl .t1 rfl rfl ?_
        intro _ hs
        refine WL_nil ?_
        show ∃ _, _
        have hs := hs.front .head
        have hs := hs.front .t1
        have hs := hs.imp .head (pt_to (g := nc ⟨7, 25, ⟨#[78, 97, 78]⟩, s, org, fl, l, p, q, .slice none 0 0⟩) (by repeat (first | exact below_zero | refine below_succ ?_ rfl)))
        exact ⟨⟨7, 25, ⟨#[78, 97, 78]⟩, s, org, fl, l, p, q, .slice none 0 0⟩, _, (Ext.cons rfl (Ext.cons rfl (Ext.nil _))), hs, (.leaf (by simp)), rfl, (show (2 : Int) ≤ 7 by decide), (show (7 : Int) ≤ 8 by decide)⟩
       ·
        refine W_skip ?_
        show ∃ _, _
        have hs := hs.front .head
        have hs := hs.front .t1
        have hs := hs.imp .head (pt_to (g := nc ⟨8, 31, val, s, org, fl, l, p, q, .slice none 0 0⟩) (by repeat (first | exact below_zero | refine below_succ ?_ rfl)))
        exact ⟨⟨8, 31, val, s, org, fl, l, p, q, .slice none 0 0⟩, _, (Ext.cons rfl (Ext.cons rfl (Ext.nil _))), hs, (.leaf (by simp)), rfl, (show (2 : Int) ≤ 8 by decide), (show (8 : Int) ≤ 8 by decide)⟩
 ·
  rintro e1 w1 ⟨n, z, hx, hs, hg, hkid, hlo, hhi⟩
  refine W_forget hx ?_
  clear hx
  refine W_sr ?_
  refine k_ldW hs rfl .head rfl ?_
  refine k_stW hs rfl rfl .t1 (nc_one (by rw [hkid]; rfl)) ?_
  intro _ hs
  refine WL_th ?_
  refine W_ret ?_
  refine ret_cell (fn := Tryz.f62) rfl rfl hs .t1 ?_
  exact ⟨⟨n, rfl, hg, hkid, hlo, hhi⟩, hs.keep0⟩
end Go.Proofs.YtmalghopogngoaaGreatDoor
set_option linter.unusedVariables false
set_option linter.unusedSimpArgs false
set_option maxRecDepth 4000
namespace Go.Proofs.YtmalghopogngoaaGreatDoor
open Go Go.RowKit MW
theorem c_wrNodeV (k ty : Int) (hk : k = 8 ∨ k = 19) (text : ByteArray) (l p : Int) (wI : World) : Quiet Tryz.prog 30 [.int .i64 k, .int .i64 ty, .string text, .agg (mkA 5 (plC l p))] wI fun v => v = .agg (mkA 19 (nc ⟨k, ty, text, text, text, false, l, p, p, .slice none 0 0⟩)) := by
 have h := c_wrNode k ty text l p wI
 rwa [if_pos hk] at h
theorem c_wrNodeE (k ty : Int) (hk : ¬ (k = 8 ∨ k = 19)) (text : ByteArray) (l p : Int) (wI : World) : Quiet Tryz.prog 30 [.int .i64 k, .int .i64 ty, .string text, .agg (mkA 5 (plC l p))] wI fun v => v = .agg (mkA 19 (nc ⟨k, ty, ⟨#[]⟩, text, text, false, l, p, p, .slice none 0 0⟩)) := by
 have h := c_wrNode k ty text l p wI
 rwa [if_neg hk] at h
theorem recs_one {α : Type} {c : α → Nat → Value} {sz : Nat} {z : Nat → Value} (a : α) : ∀ i, i < 1 * sz → lay z (0 * sz) sz (c a) i = recs sz c [a] i := fun i hi => by
 have hi' : i < sz := by omega
 have h1 := recs_at (sz := sz) (c := c) (l := [a]) (i := 0) (j := i) (a := a) rfl hi'
 rw [Nat.zero_mul, Nat.zero_add] at h1
 rw [h1, Nat.zero_mul]
 exact lay_all i hi'
/-- What the maker hands back. -/
def MadeR (T : ByteArray → Prop) (G0 : List Assn) (mb : Nat) (l c : Int) (most : Nat) (key : Prop) (v : Value) (G : List Assn) : Prop :=
 ∃ r : Rose, v = .agg (mkA 19 (nc r.n)) ∧ Good T r ∧ r.size ≤ most ∧ (key → 2 ≤ r.n.kind ∧ r.n.kind ≤ 8) ∧ G = pt mb 61 2 (mkC l (c + r.size)) :: hold (fun w => RepN w r) :: G0
theorem c_scalar {T : ByteArray → Prop} (hKn : KnownOK T) (hSg : SignedOK T) (mb : Nat) (l c : Int) (h1 : 1 ≤ c) (h2 : c ≤ 900000000) (t : TRec) (hvs : t.value.size ≤ 1000) : MW.Spec Tryz.prog 32 [.pointer (some ⟨mb, 0, none⟩), .agg (mkA 6 (tc t))].toArray [pt mb 61 2 (mkC l c)] (MadeR T [] mb l c 2 (t.style ≤ 3)) := by
 intro wI S hsat
 have hs := St.start hsat
 obtain ⟨kind, value, anchor, tag, style, kv⟩ := t
 refine calls_W (args := [_, _]) Tryz.func32 rfl Tryz.ntmps32 rfl ?_
 refine W_sr ?_
 refine k_box hs rfl rfl ?_
 intro b3 _ hs
 refine k_alloc hs rfl ?_
 intro b4 _ hs
 refine WL_th ?_
 refine W_join (fun e' w' => ∃ (b5 : Nat) (p9 : Int), Ext e' (upd (upd (upd (upd emp 5 (.pointer (some ⟨b5, 0, none⟩))) 4 (.pointer (some ⟨b4, 0, none⟩))) 3 (.pointer (some ⟨b3, 0, none⟩))) 0 (.pointer (some ⟨mb, 0, none⟩))) ∧ ∃ z, St wI S w' [pt b5 31 19 (nc ⟨8, 31, value, value, value, false, l, p9, p9, .slice none 0 0⟩), pt b4 31 19 z, pt b3 24 6 (tc ⟨kind, value, anchor, tag, style, kv⟩), pt mb 61 2 (mkC l (c + 1))]) ?_ ?_
 ·
  refine h_start (S := fun w => w.heap[b3]? = some (.cells (mkA 6 (tc ⟨kind, value, anchor, tag, style, kv⟩)) 24 (0, 0))) (ls := #[false, false, false, false, false, false, false]) (n := 7) (by kernel_rfl) (by kernel_rfl) ?_
  have hs := hs.drew
  refine h_pu 0 rfl (ls' := #[true, false, false, false, false, false, false]) (by kernel_rfl) (fun _ _ _ h => h) rfl (hs.cell .t1) (p_field rfl) ?_
  refine h_take 1 rfl (ls' := #[true, true, false, false, false, false, false]) (by kernel_rfl) (fun _ _ _ h => h) rfl (hs.cell .t1) (fun w hw => q_ld rfl hw rfl) ?_
  refine h_pu 2 rfl (ls' := #[true, true, true, false, false, false, false]) (by kernel_rfl) (fun _ _ _ h => h) rfl (hs.cell .t1) (p_move rfl) ?_
  refine h_two 3 5 rfl rfl (ls' := #[true, true, true, true, false, false, false]) (ls'' := #[true, true, true, false, false, true, false]) (by kernel_rfl) ?_ ?_
  ·
   have hs := hs.front .t2
   refine k_spec [pt mb 61 2 (mkC l c)] (c_place mb l c (by omega) (by omega)) hs (.cons rfl .nil) rfl ?_
   rintro _ _ _ ⟨p9, rfl, rfl⟩ hs
   refine WL_th ⟨(hs.cell .t2), ?_⟩
   refine h_two 4 5 rfl rfl (ls' := #[true, true, true, true, true, false, false]) (ls'' := #[true, true, true, true, false, true, false]) (by kernel_rfl) ?_ ?_
   ·
    refine k_quiet (c_wrNodeV _ _ (.inl rfl) _ _ _ _) hs (.cons rfl (.cons rfl (.cons rfl (.cons rfl .nil)))) rfl ?_
    rintro _ _ rfl hs _
    refine WL_th ⟨(hs.cell .t2), ?_⟩
    refine h_one 5 rfl (ls' := #[true, true, true, true, true, true, false]) (by kernel_rfl) ?_
    refine k_alloc hs rfl ?_
    intro b5 _ hs
    refine WL_th ⟨(hs.cell .t3), ?_⟩
    refine h_one 6 rfl (ls' := #[true, true, true, true, true, true, true]) (by kernel_rfl) ?_
    refine k_stW hs rfl rfl (by repeat (first | exact .head | apply Put.tail)) (nc_one rfl) ?_
    intro _ hs
    refine WL_th ⟨(hs.cell .t3), ?_⟩
    refine h_done (by kernel_rfl) ?_
    show ∃ _, _
    have hs := hs.front .t1
    have hs := hs.front .t3
    have hs := hs.front .t3
    have hs := hs.front .t3
    have hs := St.cut (G1 := [_, _, _, _]) hs
    exact ⟨b5, p9, (Ext.cons rfl (Ext.cons rfl (Ext.cons rfl (Ext.cons rfl (Ext.nil _))))), _, hs⟩
   ·
    refine k_alloc hs rfl ?_
    intro b5 _ hs
    refine WL_th ⟨(hs.cell .t3), ?_⟩
    refine h_one 4 rfl (ls' := #[true, true, true, true, true, true, false]) (by kernel_rfl) ?_
    refine k_quiet (c_wrNodeV _ _ (.inl rfl) _ _ _ _) hs (.cons rfl (.cons rfl (.cons rfl (.cons rfl .nil)))) rfl ?_
    rintro _ _ rfl hs _
    refine WL_th ⟨(hs.cell .t3), ?_⟩
    refine h_one 6 rfl (ls' := #[true, true, true, true, true, true, true]) (by kernel_rfl) ?_
    refine k_stW hs rfl rfl (by repeat (first | exact .head | apply Put.tail)) (nc_one rfl) ?_
    intro _ hs
    refine WL_th ⟨(hs.cell .t3), ?_⟩
    refine h_done (by kernel_rfl) ?_
    show ∃ _, _
    have hs := hs.front .t1
    have hs := hs.front .t3
    have hs := hs.front .t3
    have hs := hs.front .t3
    have hs := St.cut (G1 := [_, _, _, _]) hs
    exact ⟨b5, p9, (Ext.cons rfl (Ext.cons rfl (Ext.cons rfl (Ext.cons rfl (Ext.nil _))))), _, hs⟩
  ·
   refine k_alloc hs rfl ?_
   intro b5 _ hs
   refine WL_th ⟨(hs.cell .t2), ?_⟩
   refine h_one 3 rfl (ls' := #[true, true, true, true, false, true, false]) (by kernel_rfl) ?_
   have hs := hs.front .t3
   refine k_spec [pt mb 61 2 (mkC l c)] (c_place mb l c (by omega) (by omega)) hs (.cons rfl .nil) rfl ?_
   rintro _ _ _ ⟨p9, rfl, rfl⟩ hs
   refine WL_th ⟨(hs.cell .t3), ?_⟩
   refine h_one 4 rfl (ls' := #[true, true, true, true, true, true, false]) (by kernel_rfl) ?_
   refine k_quiet (c_wrNodeV _ _ (.inl rfl) _ _ _ _) hs (.cons rfl (.cons rfl (.cons rfl (.cons rfl .nil)))) rfl ?_
   rintro _ _ rfl hs _
   refine WL_th ⟨(hs.cell .t3), ?_⟩
   refine h_one 6 rfl (ls' := #[true, true, true, true, true, true, true]) (by kernel_rfl) ?_
   refine k_stW hs rfl rfl (by repeat (first | exact .head | apply Put.tail)) (nc_one rfl) ?_
   intro _ hs
   refine WL_th ⟨(hs.cell .t3), ?_⟩
   refine h_done (by kernel_rfl) ?_
   show ∃ _, _
   have hs := hs.front .head
   have hs := hs.front .t3
   have hs := hs.front .t3
   have hs := hs.front .t3
   have hs := St.cut (G1 := [_, _, _, _]) hs
   exact ⟨b5, p9, (Ext.cons rfl (Ext.cons rfl (Ext.cons rfl (Ext.cons rfl (Ext.nil _))))), _, hs⟩
 ·
  rintro e1 w1 ⟨b5, p9, hx, z, hs⟩
  refine W_forget hx ?_
  clear hx
  refine W_join (fun e' w' => ∃ (r : Rose) (z : Nat → Value), Ext e' (upd (upd emp 5 (.pointer (some ⟨b5, 0, none⟩))) 4 (.pointer (some ⟨b4, 0, none⟩))) ∧ St wI S w' [pt b5 31 19 (nc r.n), pt b4 31 19 z, hold (fun w => RepN w r), pt mb 61 2 (mkC l (c + r.size))] ∧ Good T r ∧ r.size ≤ 2 ∧ r.n.kids.oneCell' = true ∧ (style ≤ 3 → 2 ≤ r.n.kind ∧ r.n.kind ≤ 8)) ?_ ?_
  ·
   refine W_block ?_
   refine W_sr ?_
   refine s_pu (p_field rfl) rfl ?_
   refine k_ld hs rfl .t2 rfl rfl ?_
   refine s_pu (p_eqI rfl rfl) rfl ?_
   refine s_pu (p_assign rfl) rfl ?_
   refine WL_th ?_
   refine W_if rfl (fun h16 => ?_) (fun h16 => ?_)
   ·
    refine W_reg ?_
    refine s_pu (p_field rfl) rfl ?_
    refine k_st hs rfl rfl .head rfl rfl ?_
    intro _ hs
    refine WL_nil ?_
    show ∃ _, _
    have hs := hs.holdT (R := fun w => RepN w (.mk ⟨8, 18, value, value, value, false, l, p9, p9, .slice none 0 0⟩ [])) (fun w => .mk (.inl ⟨rfl, rfl⟩) (by simp))
    have hs := hs.front .t4
    have hs := hs.front .t1
    have hs := hs.front .t3
    have hs := hs.front .t3
    have hs := St.cut (G1 := [_, _, _, _]) hs
    have hs := hs.imp .head (pt_to (g := nc (Rose.n (.mk ⟨8, 18, value, value, value, false, l, p9, p9, .slice none 0 0⟩ []))) (by repeat (first | exact below_zero | refine below_succ ?_ rfl)))
    exact ⟨.mk ⟨8, 18, value, value, value, false, l, p9, p9, .slice none 0 0⟩ [], _, (Ext.cons rfl (Ext.cons rfl (Ext.nil _))), hs, .leaf (by simp), by simp [Rose.size, rsizes], rfl, fun _ => ⟨show (2 : Int) ≤ 8 by decide, show (8 : Int) ≤ 8 by decide⟩⟩
   ·
    refine W_sr ?_
    refine s_pu (p_field rfl) rfl ?_
    refine k_ld hs rfl .t2 rfl rfl ?_
    refine s_pu (p_eqI rfl rfl) rfl ?_
    refine s_pu (p_assign rfl) rfl ?_
    refine WL_th ?_
    refine W_if rfl (fun h21 => ?_) (fun h21 => ?_)
    ·
     refine W_reg ?_
     refine s_pu (p_field rfl) rfl ?_
     refine k_st hs rfl rfl .head rfl rfl ?_
     intro _ hs
     refine WL_nil ?_
     show ∃ _, _
     have hs := hs.holdT (R := fun w => RepN w (.mk ⟨8, 19, value, value, value, false, l, p9, p9, .slice none 0 0⟩ [])) (fun w => .mk (.inl ⟨rfl, rfl⟩) (by simp))
     have hs := hs.front .t4
     have hs := hs.front .t1
     have hs := hs.front .t3
     have hs := hs.front .t3
     have hs := St.cut (G1 := [_, _, _, _]) hs
     have hs := hs.imp .head (pt_to (g := nc (Rose.n (.mk ⟨8, 19, value, value, value, false, l, p9, p9, .slice none 0 0⟩ []))) (by repeat (first | exact below_zero | refine below_succ ?_ rfl)))
     exact ⟨.mk ⟨8, 19, value, value, value, false, l, p9, p9, .slice none 0 0⟩ [], _, (Ext.cons rfl (Ext.cons rfl (Ext.nil _))), hs, .leaf (by simp), by simp [Rose.size, rsizes], rfl, fun _ => ⟨show (2 : Int) ≤ 8 by decide, show (8 : Int) ≤ 8 by decide⟩⟩
    ·
     refine W_sr ?_
     refine s_pu (p_field rfl) rfl ?_
     refine k_ld hs rfl .t2 rfl rfl ?_
     refine s_pu (p_eqI rfl rfl) rfl ?_
     refine s_pu (p_move rfl) rfl ?_
     refine WL_cutb 4 34 [0, 3, 4, 5] (fun b => b = (style == 4 || style == 5)) ?_ ?_
     ·
      refine s_bool 30 rfl (fun hb30 => ?_) (fun hb30 => ?_)
      ·
       refine g_skip rfl rfl rfl rfl rfl ?_
       refine g_skip rfl rfl rfl rfl rfl ?_
       refine g_skip rfl rfl rfl rfl rfl ?_
       refine s_pu (p_pickT rfl rfl) rfl ?_
       refine WL_th ⟨rfl, _, ?_, Ext.cons rfl (ext_kd rfl rfl (ext_kd rfl rfl (ext_kd rfl rfl (ext_kd rfl rfl ext_kn))))⟩
       rw [hb30]; rfl
      ·
       refine g_take rfl rfl rfl ?_
       refine s_pu (p_field rfl) rfl ?_
       refine g_take rfl rfl rfl ?_
       refine k_ld hs rfl .t2 rfl rfl ?_
       refine g_take rfl rfl rfl ?_
       refine s_pu (p_eqI rfl rfl) rfl ?_
       refine s_pu (p_pickF rfl rfl) rfl ?_
       refine WL_th ⟨rfl, _, ?_, Ext.cons rfl (ext_kd rfl rfl (ext_kd rfl rfl (ext_kd rfl rfl (ext_kd rfl rfl ext_kn))))⟩
       rw [hb30]; rfl
     ·
      intro b34 hb34
      refine WL_forget (Ext.cd 0 rfl (Ext.cd 3 rfl (Ext.cd 4 rfl (Ext.cd 5 rfl (Ext.cd 34 rfl (Ext.nil _)))))) ?_
      show WL _ _ _ (_ :: _) _ _ _
      refine s_pu (p_assign rfl) rfl ?_
      refine WL_th ?_
      refine W_if rfl (fun h26 => ?_) (fun h26 => ?_)
      ·
       have hst : style = 4 ∨ style = 5 := by rw [h26] at hb34; simpa using hb34.symm
       refine W_seq ?_
       refine h_start (S := fun w => w.heap[b3]? = some (.cells (mkA 6 (tc ⟨kind, value, anchor, tag, style, kv⟩)) 24 (0, 0))) (ls := #[false, false, false, false, false, false, false, false, false, false, false]) (n := 11) (by kernel_rfl) (by kernel_rfl) ?_
       have hs := hs.drew
       refine h_pu 0 rfl (ls' := #[true, false, false, false, false, false, false, false, false, false, false]) (by kernel_rfl) (fun _ _ _ h => h) rfl (hs.cell .t2) (p_field rfl) ?_
       refine h_take 1 rfl (ls' := #[true, true, false, false, false, false, false, false, false, false, false]) (by kernel_rfl) (fun _ _ _ h => h) rfl (hs.cell .t2) (fun w hw => q_ld rfl hw rfl) ?_
       refine h_pu 2 rfl (ls' := #[true, true, true, false, false, false, false, false, false, false, false]) (by kernel_rfl) (fun _ _ _ h => h) rfl (hs.cell .t2) (p_addI rfl rfl ?_) ?_
       ·
        (show -9223372036854775808 ≤ 12 + style ∧ 12 + style ≤ 9223372036854775807; omega)
       refine h_pu 3 rfl (ls' := #[true, true, true, true, false, false, false, false, false, false, false]) (by kernel_rfl) (fun _ _ _ h => h) rfl (hs.cell .t2) (p_field rfl) ?_
       refine h_one 4 rfl (ls' := #[true, true, true, true, true, false, false, false, false, false, false]) (by kernel_rfl) ?_
       refine k_st hs rfl rfl .head rfl rfl ?_
       intro _ hs
       refine WL_th ⟨(hs.cell .t2), ?_⟩
       refine h_pu 5 rfl (ls' := #[true, true, true, true, true, true, false, false, false, false, false]) (by kernel_rfl) (fun _ _ _ h => h) rfl (hs.cell .t2) (p_field rfl) ?_
       refine h_one 6 rfl (ls' := #[true, true, true, true, true, true, true, false, false, false, false]) (by kernel_rfl) ?_
       refine k_st hs rfl rfl .head rfl rfl ?_
       intro _ hs
       refine WL_th ⟨(hs.cell .t2), ?_⟩
       refine h_pu 7 rfl (ls' := #[true, true, true, true, true, true, true, true, false, false, false]) (by kernel_rfl) (fun _ _ _ h => h) rfl (hs.cell .t2) (p_field rfl) ?_
       refine h_one 8 rfl (ls' := #[true, true, true, true, true, true, true, true, true, false, false]) (by kernel_rfl) ?_
       refine k_st hs rfl rfl .head rfl rfl ?_
       intro _ hs
       refine WL_th ⟨(hs.cell .t2), ?_⟩
       refine h_pu 9 rfl (ls' := #[true, true, true, true, true, true, true, true, true, true, false]) (by kernel_rfl) (fun _ _ _ h => h) rfl (hs.cell .t2) (p_field rfl) ?_
       refine h_one 10 rfl (ls' := #[true, true, true, true, true, true, true, true, true, true, true]) (by kernel_rfl) ?_
       refine k_st hs rfl rfl .head rfl rfl ?_
       intro _ hs
       refine WL_th ⟨(hs.cell .t2), ?_⟩
       refine h_done (by kernel_rfl) ?_
       show W _ _ _ _ _ _
       refine W_seq ?_
       refine W_sr ?_
       refine s_pu (p_field rfl) rfl ?_
       refine k_ld hs rfl .t2 rfl rfl ?_
       refine s_pu (p_eqI rfl rfl) rfl ?_
       refine WL_th ?_
       refine W_forget (Ext.cd 0 rfl (Ext.cd 3 rfl (Ext.cd 4 rfl (Ext.cd 5 rfl (Ext.cd 44 rfl (Ext.nil _)))))) ?_
       refine W_if rfl (fun h44 => ?_) (fun h44 => ?_)
       ·
        refine W_reg ?_
        refine s_pu (p_field rfl) rfl ?_
        refine k_st hs rfl rfl .head rfl rfl ?_
        intro _ hs
        refine s_pu (p_field rfl) rfl ?_
        refine k_st hs rfl rfl .head rfl rfl ?_
        intro _ hs
        refine WL_th ?_
        refine h_start (S := fun w => w.heap[b3]? = some (.cells (mkA 6 (tc ⟨kind, value, anchor, tag, style, kv⟩)) 24 (0, 0))) (ls := #[false, false, false, false, false, false, false, false]) (n := 8) (by kernel_rfl) (by kernel_rfl) ?_
        have hs := hs.drew
        refine h_pu 0 rfl (ls' := #[true, false, false, false, false, false, false, false]) (by kernel_rfl) (fun _ _ _ h => h) rfl (hs.cell .t2) (p_field rfl) ?_
        refine h_take 1 rfl (ls' := #[true, true, false, false, false, false, false, false]) (by kernel_rfl) (fun _ _ _ h => h) rfl (hs.cell .t2) (fun w hw => q_ld rfl hw rfl) ?_
        refine h_pu 2 rfl (ls' := #[true, true, true, false, false, false, false, false]) (by kernel_rfl) (fun _ _ _ h => h) rfl (hs.cell .t2) (p_move rfl) ?_
        refine h_one 3 rfl (ls' := #[true, true, true, true, false, false, false, false]) (by kernel_rfl) ?_
        have hs := hs.front .t3
        refine k_spec [pt mb 61 2 (mkC l (c + 1))] (c_place mb l (c + 1) (by omega) (by omega)) hs (.cons rfl .nil) rfl ?_
        rintro _ _ _ ⟨p50, rfl, rfl⟩ hs
        refine WL_th ⟨(hs.cell .t3), ?_⟩
        refine h_one 4 rfl (ls' := #[true, true, true, true, true, false, false, false]) (by kernel_rfl) ?_
        refine k_quiet (c_wrNodeV _ _ (.inl rfl) _ _ _ _) hs (.cons rfl (.cons rfl (.cons rfl (.cons rfl .nil)))) rfl ?_
        rintro _ _ rfl hs _
        refine WL_th ⟨(hs.cell .t3), ?_⟩
        refine h_one 5 rfl (ls' := #[true, true, true, true, true, true, false, false]) (by kernel_rfl) ?_
        refine k_bs hs (.agg rfl .nil) rfl rfl rfl ?_
        intro b52 _ hs
        have hs := hs.imp .head (pt_row (n := 1) (sz := 19) rfl (maxLen_big rfl))
        have hs := hs.imp .head (row_to (g := recs 19 (fun r : Rose => nc r.n) [.mk ⟨8, 31, value, value, value, false, l, p50, p50, .slice none 0 0⟩ []]) (recs_one (c := fun r : Rose => nc r.n) (sz := 19) (.mk ⟨8, 31, value, value, value, false, l, p50, p50, .slice none 0 0⟩ [])))
        refine WL_th ⟨(hs.cell .t4), ?_⟩
        refine h_pu 6 rfl (ls' := #[true, true, true, true, true, true, true, false]) (by kernel_rfl) (fun _ _ _ h => h) rfl (hs.cell .t4) (p_field rfl) ?_
        refine h_one 7 rfl (ls' := #[true, true, true, true, true, true, true, true]) (by kernel_rfl) ?_
        refine k_st hs rfl rfl .t2 rfl rfl ?_
        intro _ hs
        refine WL_th ⟨(hs.cell .t4), ?_⟩
        refine h_done (by kernel_rfl) ?_
        show ∃ _, _
        have hs := hs.holdT (R := fun w => ∀ k ∈ ([.mk ⟨8, 31, value, value, value, false, l, p50, p50, .slice none 0 0⟩ []] : List Rose), RepN w k) (fun w k hk => by rw [List.mem_singleton] at hk; subst hk; exact .mk (.inl ⟨rfl, rfl⟩) (by simp))
        have hs := hs.front .head
        have hs := hs.front .t1
        have hs := MW.St.seal_kids (n := ⟨10, 12 + style, value, ⟨#[62]⟩, ⟨#[62]⟩, false, l, p9, p9, .slice (some ⟨b52, 0, none⟩) 1 1⟩) (rs := [.mk ⟨8, 31, value, value, value, false, l, p50, p50, .slice none 0 0⟩ []]) (v := .slice (some ⟨b52, 0, none⟩) 1 1) hs rfl
        have ec : c + 1 + 1 = c + ((2 : Nat) : Int) := by omega
        rw [ec] at hs
        have hs := hs.front .t1
        have hs := hs.front .t1
        have hs := hs.front .t3
        have hs := hs.front .t3
        have hs := St.cut (G1 := [_, _, _, _]) hs
        have hs := hs.imp .head (pt_to (g := nc (Rose.n (.mk ⟨10, 12 + style, value, ⟨#[62]⟩, ⟨#[62]⟩, false, l, p9, p9, .slice (some ⟨b52, 0, none⟩) 1 1⟩ [.mk ⟨8, 31, value, value, value, false, l, p50, p50, .slice none 0 0⟩ []]))) (by repeat (first | exact below_zero | refine below_succ ?_ rfl)))
        exact ⟨.mk ⟨10, 12 + style, value, ⟨#[62]⟩, ⟨#[62]⟩, false, l, p9, p9, .slice (some ⟨b52, 0, none⟩) 1 1⟩ [.mk ⟨8, 31, value, value, value, false, l, p50, p50, .slice none 0 0⟩ []], _, (Ext.cons rfl (Ext.cons rfl (Ext.nil _))), hs, .lit rfl, by simp [Rose.size, rsizes], rfl, fun h => by exfalso; have h3 : style ≤ 3 := h; omega⟩
       ·
        refine W_skip_th ?_
        refine h_start (S := fun w => w.heap[b3]? = some (.cells (mkA 6 (tc ⟨kind, value, anchor, tag, style, kv⟩)) 24 (0, 0))) (ls := #[false, false, false, false, false, false, false, false]) (n := 8) (by kernel_rfl) (by kernel_rfl) ?_
        have hs := hs.drew
        refine h_pu 0 rfl (ls' := #[true, false, false, false, false, false, false, false]) (by kernel_rfl) (fun _ _ _ h => h) rfl (hs.cell .t2) (p_field rfl) ?_
        refine h_take 1 rfl (ls' := #[true, true, false, false, false, false, false, false]) (by kernel_rfl) (fun _ _ _ h => h) rfl (hs.cell .t2) (fun w hw => q_ld rfl hw rfl) ?_
        refine h_pu 2 rfl (ls' := #[true, true, true, false, false, false, false, false]) (by kernel_rfl) (fun _ _ _ h => h) rfl (hs.cell .t2) (p_move rfl) ?_
        refine h_one 3 rfl (ls' := #[true, true, true, true, false, false, false, false]) (by kernel_rfl) ?_
        have hs := hs.front .t3
        refine k_spec [pt mb 61 2 (mkC l (c + 1))] (c_place mb l (c + 1) (by omega) (by omega)) hs (.cons rfl .nil) rfl ?_
        rintro _ _ _ ⟨p50, rfl, rfl⟩ hs
        refine WL_th ⟨(hs.cell .t3), ?_⟩
        refine h_one 4 rfl (ls' := #[true, true, true, true, true, false, false, false]) (by kernel_rfl) ?_
        refine k_quiet (c_wrNodeV _ _ (.inl rfl) _ _ _ _) hs (.cons rfl (.cons rfl (.cons rfl (.cons rfl .nil)))) rfl ?_
        rintro _ _ rfl hs _
        refine WL_th ⟨(hs.cell .t3), ?_⟩
        refine h_one 5 rfl (ls' := #[true, true, true, true, true, true, false, false]) (by kernel_rfl) ?_
        refine k_bs hs (.agg rfl .nil) rfl rfl rfl ?_
        intro b52 _ hs
        have hs := hs.imp .head (pt_row (n := 1) (sz := 19) rfl (maxLen_big rfl))
        have hs := hs.imp .head (row_to (g := recs 19 (fun r : Rose => nc r.n) [.mk ⟨8, 31, value, value, value, false, l, p50, p50, .slice none 0 0⟩ []]) (recs_one (c := fun r : Rose => nc r.n) (sz := 19) (.mk ⟨8, 31, value, value, value, false, l, p50, p50, .slice none 0 0⟩ [])))
        refine WL_th ⟨(hs.cell .t4), ?_⟩
        refine h_pu 6 rfl (ls' := #[true, true, true, true, true, true, true, false]) (by kernel_rfl) (fun _ _ _ h => h) rfl (hs.cell .t4) (p_field rfl) ?_
        refine h_one 7 rfl (ls' := #[true, true, true, true, true, true, true, true]) (by kernel_rfl) ?_
        refine k_st hs rfl rfl .t2 rfl rfl ?_
        intro _ hs
        refine WL_th ⟨(hs.cell .t4), ?_⟩
        refine h_done (by kernel_rfl) ?_
        show ∃ _, _
        have hs := hs.holdT (R := fun w => ∀ k ∈ ([.mk ⟨8, 31, value, value, value, false, l, p50, p50, .slice none 0 0⟩ []] : List Rose), RepN w k) (fun w k hk => by rw [List.mem_singleton] at hk; subst hk; exact .mk (.inl ⟨rfl, rfl⟩) (by simp))
        have hs := hs.front .head
        have hs := hs.front .t1
        have hs := MW.St.seal_kids (n := ⟨10, 12 + style, value, ⟨#[124]⟩, ⟨#[124]⟩, false, l, p9, p9, .slice (some ⟨b52, 0, none⟩) 1 1⟩) (rs := [.mk ⟨8, 31, value, value, value, false, l, p50, p50, .slice none 0 0⟩ []]) (v := .slice (some ⟨b52, 0, none⟩) 1 1) hs rfl
        have ec : c + 1 + 1 = c + ((2 : Nat) : Int) := by omega
        rw [ec] at hs
        have hs := hs.front .t1
        have hs := hs.front .t1
        have hs := hs.front .t3
        have hs := hs.front .t3
        have hs := St.cut (G1 := [_, _, _, _]) hs
        have hs := hs.imp .head (pt_to (g := nc (Rose.n (.mk ⟨10, 12 + style, value, ⟨#[124]⟩, ⟨#[124]⟩, false, l, p9, p9, .slice (some ⟨b52, 0, none⟩) 1 1⟩ [.mk ⟨8, 31, value, value, value, false, l, p50, p50, .slice none 0 0⟩ []]))) (by repeat (first | exact below_zero | refine below_succ ?_ rfl)))
        exact ⟨.mk ⟨10, 12 + style, value, ⟨#[124]⟩, ⟨#[124]⟩, false, l, p9, p9, .slice (some ⟨b52, 0, none⟩) 1 1⟩ [.mk ⟨8, 31, value, value, value, false, l, p50, p50, .slice none 0 0⟩ []], _, (Ext.cons rfl (Ext.cons rfl (Ext.nil _))), hs, .lit rfl, by simp [Rose.size, rsizes], rfl, fun h => by exfalso; have h3 : style ≤ 3 := h; omega⟩
      ·
       refine W_reg ?_
       refine s_pu (p_move rfl) rfl ?_
       refine s_pu (p_field rfl) rfl ?_
       refine k_ld hs rfl .t2 rfl rfl ?_
       refine k_ldW hs rfl .head rfl ?_
       refine k_quiet (c_plain hKn hSg _ _ _ _ _ _ _ _ hvs _) hs (.cons rfl (.cons rfl (.cons rfl .nil))) rfl ?_
       rintro _ _ ⟨n, rfl, hg, hkid, hlo, hhi⟩ hs _
       refine k_stW hs rfl rfl .head (nc_one (by rw [hkid]; rfl)) ?_
       intro _ hs
       refine WL_nil ?_
       show ∃ _, _
       have hs := hs.holdT (R := fun w => RepN w (.mk n [])) (fun w => .mk (.inl ⟨hkid, rfl⟩) (by simp))
       have hs := hs.front .t4
       have hs := hs.front .t1
       have hs := hs.front .t3
       have hs := hs.front .t3
       have hs := St.cut (G1 := [_, _, _, _]) hs
       exact ⟨.mk n [], _, (Ext.cons rfl (Ext.cons rfl (Ext.nil _))), hs, hg, by simp [Rose.size, rsizes], by show n.kids.oneCell' = true; rw [hkid]; rfl, fun _ => ⟨hlo, hhi⟩⟩
  ·
   rintro e1 w1 ⟨r, z, hx, hs, hg, hsz, hone, hkey⟩
   refine W_forget hx ?_
   clear hx
   refine W_sr ?_
   refine k_ldW hs rfl .head rfl ?_
   refine k_stW hs rfl rfl .t1 (nc_one hone) ?_
   intro _ hs
   refine WL_th ?_
   refine W_ret ?_
   refine ret_cell (fn := Tryz.f32) (n := 19) rfl rfl hs .t1 ?_
   have hs := hs.front .t2
   have hs := hs.front .t3
   have hs := St.cut (G1 := [_, _]) hs
   exact hs.spec ⟨r, rfl, hg, hsz, hkey, rfl⟩
end Go.Proofs.YtmalghopogngoaaGreatDoor
set_option linter.unusedVariables false
set_option linter.unusedSimpArgs false
set_option maxRecDepth 4000
namespace Go.Proofs.YtmalghopogngoaaGreatDoor
open Go Go.RowKit MW
def IsKey (t : TRec) : Prop := t.kind = 1 ∧ t.anchor = ⟨#[]⟩ ∧ t.tag = ⟨#[]⟩ ∧ t.style ≤ 3
inductive FitT : TT → Prop where
 | scalar {t : TRec} : t.kind = 1 → t.value.size ≤ 1000 → FitT (.mk t [])
 | alias {t : TRec} : t.kind = 4 → FitT (.mk t [])
 | list {t : TRec} {ks : List TT} : t.kind = 2 → (∀ k ∈ ks, FitT k) → FitT (.mk t ks)
 | pairs {t : TRec} {ks : List TT} : t.kind = 3 → (∀ k ∈ ks, FitT k) → (∀ i k, ks[2 * i]? = some k → IsKey k.t) → FitT (.mk t ks)
def NodeOK (T : ByteArray → Prop) (most : Nat) (t : TT) : Prop := ∀ (R : World → Prop), (∀ w, R w → RepT w t) → ∀ (mb : Nat) (l c : Int), 1 ≤ c → c + (most : Int) ≤ 900000000 →
 MW.Spec Tryz.prog 17 [.pointer (some ⟨mb, 0, none⟩), .agg (mkA 6 (tc t.t))].toArray [pt mb 61 2 (mkC l c), hold R] (MadeR T [hold R] mb l c most (IsKey t.t))
theorem lay19 {z g : Nat → Value} (i : Nat) (hi : i < 19) : lay z (0 * 19) 19 g i = g i := by
 rw [Nat.zero_mul]
 exact lay_all i hi
theorem one_lay {z g : Nat → Value} (h : ∀ i, i < 19 → (g i).oneCell' = true) : ∀ i, i < 1 * 19 → (lay z (0 * 19) 19 g i).oneCell' = true := fun i hi => by
 rw [lay19 i (by omega)]
 exact h i (by omega)
theorem rowN_snoc {v : Value} {rs : List Rose} {r : Rose} {z : Nat → Value} (w : World) (S : Foot) (h : (row v 31 19 (rs.length + 1) (cat (recs 19 (fun r : Rose => nc r.n) rs) (rs.length * 19) (lay z (0 * 19) 19 (nc r.n)))).on w S) : (rowN v (rs ++ [r])).on w S :=
 recs_snoc (c := fun r : Rose => nc r.n) (a := r) (by omega) (fun j hj => lay19 j hj) w S h
theorem all_snoc {rs : List Rose} {r : Rose} {p : Rose → Prop} (h1 : ∀ k ∈ rs, p k) (h2 : p r) : ∀ k ∈ rs ++ [r], p k := fun k hk => by
 rcases List.mem_append.1 hk with h | h
 ·
  exact h1 k h
 ·
  rw [List.mem_singleton] at h; subst h; exact h2
theorem c_list {T : ByteArray → Prop} (t : TRec) (ks : List TT) (hk2 : t.kind = 2) (hNode : ∀ k ∈ ks, NodeOK T (8 * k.size - 3) k) (R : World → Prop) (hR : ∀ w, R w → RepT w (.mk t ks)) (mb : Nat) (l c : Int) (h1 : 1 ≤ c) (h2 : c + ((8 * (TT.mk t ks).size - 6 : Nat) : Int) ≤ 900000000) :
  MW.Spec Tryz.prog 33 [.pointer (some ⟨mb, 0, none⟩), .agg (mkA 6 (tc t))].toArray [pt mb 61 2 (mkC l c), hold R] (MadeR T [hold R] mb l c (8 * (TT.mk t ks).size - 6) (IsKey t)) := by
 intro wI S hsat
 have hs := St.start hsat
 obtain ⟨kind, value, anchor, tag, style, kv⟩ := t
 obtain rfl : kind = 2 := hk2
 obtain ⟨ad, cap, b0, o0, hv, hall⟩ := (hR _ (hs.now .t1)).kids.out
 obtain rfl : kv = .slice ad ks.length cap := hv
 have hlk := tlength_size ks
 simp only [TT.size] at h2
 refine calls_W (args := [_, _]) Tryz.func33 rfl Tryz.ntmps33 rfl ?_
 refine W_sr ?_
 refine k_box hs rfl rfl ?_
 intro b3 _ hs
 refine k_alloc hs rfl ?_
 intro b4 _ hs
 refine WL_th ?_
 refine W_sr ?_
 refine s_pu (p_field rfl) rfl ?_
 refine k_ld hs rfl .t1 rfl rfl ?_
 refine s_pu (p_eqI rfl rfl) rfl ?_
 refine s_pu (p_assign rfl) rfl ?_
 refine WL_th ?_
 refine W_seq ?_
 refine W_sr ?_
 refine s_pu (p_field rfl) rfl ?_
 refine k_ld hs rfl .t1 rfl rfl ?_
 refine s_pu (p_eqI rfl rfl) rfl ?_
 refine WL_th ?_
 refine W_true rfl ?_
 refine W_sr ?_
 refine s_pu (p_move rfl) rfl ?_
 have hs := hs.front .t2
 refine k_spec [pt mb 61 2 (mkC l c)] (c_place mb l c (by omega) (by omega)) hs (.cons rfl .nil) rfl ?_
 rintro _ _ _ ⟨p20, rfl, rfl⟩ hs
 refine k_quiet (c_wrNodeE 14 _ (by decide) _ _ _ _) hs (.cons rfl (.cons rfl (.cons rfl (.cons rfl .nil)))) rfl ?_
 rintro _ _ rfl hs _
 refine k_alloc hs rfl ?_
 intro b6 _ hs
 refine k_stW hs rfl rfl .head (nc_one rfl) ?_
 intro _ hs
 refine WL_th ?_
 refine W_join (fun e' w' => ∃ (typ : Int) (text : ByteArray), Ext e' (upd (upd (upd (upd (upd emp 5 (.bool (style == 2))) 6 (.pointer (some ⟨b6, 0, none⟩))) 4 (.pointer (some ⟨b4, 0, none⟩))) 3 (.pointer (some ⟨b3, 0, none⟩))) 0 (.pointer (some ⟨mb, 0, none⟩))) ∧ ∃ z, St wI S w' [pt b6 31 19 (nc ⟨14, typ, ⟨#[]⟩, text, text, false, l, p20, p20, .slice none 0 0⟩), pt b4 31 19 z, pt b3 24 6 (tc ⟨2, value, anchor, tag, style, .slice ad ks.length cap⟩), pt mb 61 2 (mkC l (c + 1)), hold R]) ?_ ?_
 ·
  refine W_sr ?_
  refine s_pu (p_move rfl) rfl ?_
  refine WL_th ?_
  refine W_if rfl (fun h22 => ?_) (fun h22 => ?_)
  ·
   refine W_reg ?_
   refine s_pu (p_field rfl) rfl ?_
   refine k_st hs rfl rfl .head rfl rfl ?_
   intro _ hs
   refine s_pu (p_field rfl) rfl ?_
   refine k_st hs rfl rfl .head rfl rfl ?_
   intro _ hs
   refine s_pu (p_field rfl) rfl ?_
   refine k_st hs rfl rfl .head rfl rfl ?_
   intro _ hs
   refine WL_th ?_
   have hs := hs.front .t4
   have hs := hs.front .t2
   have hs := hs.front .t4
   have hs := hs.front .t4
   have hs := hs.front .t4
   have hs := St.cut (G1 := [_, _, _, _, _]) hs
   have hs := hs.imp .head (pt_to (g := nc ⟨14, 8, ⟨#[]⟩, ⟨#[91]⟩, ⟨#[91]⟩, false, l, p20, p20, .slice none 0 0⟩) (by repeat (first | exact below_zero | refine below_succ ?_ rfl)))
   exact ⟨8, ⟨#[91]⟩, (Ext.cons rfl (Ext.cons rfl (Ext.cons rfl (Ext.cons rfl (Ext.cons rfl (Ext.nil _)))))), _, hs⟩
  ·
   refine W_skip_th ?_
   have hs := hs.front .t4
   have hs := hs.front .t2
   have hs := hs.front .t4
   have hs := hs.front .t4
   have hs := hs.front .t4
   have hs := St.cut (G1 := [_, _, _, _, _]) hs
   exact ⟨3, ⟨#[45]⟩, (Ext.cons rfl (Ext.cons rfl (Ext.cons rfl (Ext.cons rfl (Ext.cons rfl (Ext.nil _)))))), _, hs⟩
 ·
  rintro e1 w1 ⟨typ, text, hx, z, hs⟩
  refine W_forget hx ?_
  clear hx
  refine W_sr ?_
  refine s_pu (p_move rfl) rfl ?_
  refine s_pu (p_field rfl) rfl ?_
  refine k_st hs rfl rfl .head rfl rfl ?_
  intro _ hs
  refine WL_th ?_
  refine W_seq ?_
  refine W_sr ?_
  refine s_pu (p_field rfl) rfl ?_
  refine k_ld hs rfl .t2 rfl rfl ?_
  refine s_pu (p_lenL rfl) rfl ?_
  refine s_pu (p_move rfl) rfl ?_
  refine WL_th ?_
  refine W_block ?_
  have hs := hs.imp .head (pt_to (g := nc ⟨14, typ, ⟨#[]⟩, text, text, (style == 2), l, p20, p20, .slice none 0 0⟩) (by repeat (first | exact below_zero | refine below_succ ?_ rfl)))
  have hs := (hs.rowNil 31 19 (recs 19 (fun r : Rose => nc r.n) [])).holdT (R := fun w => ∀ r ∈ ([] : List Rose), RepN w r) (fun w r h => by simp at h)
  have hs := hs.front .t3
  have hs := hs.front .t6
  have hs := hs.front .t6
  have hs := hs.front .t3
  have hs := hs.front .t4
  have hs := hs.front .t5
  have hs := St.cut (G1 := [_, _, _, _, _, _]) hs
  have ec : c + 1 = c + 1 + ((rsizes [] : Nat) : Int) := by simp [rsizes]
  rw [ec] at hs
  refine W_loop (α := List Rose × Value) (fun x => (upd (upd (upd (upd (upd (upd emp 31 (.int .i64 x.1.length)) 30 (.int .i64 ks.length)) 29 (.slice ad ks.length cap)) 6 (.pointer (some ⟨b6, 0, none⟩))) 0 (.pointer (some ⟨mb, 0, none⟩))) 4 (.pointer (some ⟨b4, 0, none⟩)))) (fun x w => x.1.length ≤ ks.length ∧ rsizes x.1 + 3 * x.1.length ≤ 8 * tsizes (ks.take x.1.length) ∧ (∀ r ∈ x.1, Good T r) ∧ St wI S w [pt b6 31 19 (nc ⟨14, typ, ⟨#[]⟩, text, text, (style == 2), l, p20, p20, x.2⟩), rowN x.2 x.1, hold (fun w => ∀ r ∈ x.1, RepN w r), pt mb 61 2 (mkC l (c + 1 + (rsizes x.1 : Int))), hold R, pt b4 31 19 z]) (fun x => ks.length - x.1.length) ([], .slice none 0 0) (Ext.cons rfl (Ext.cons rfl (Ext.cons rfl (Ext.cons rfl (Ext.cons rfl (Ext.cons rfl (Ext.nil _))))))) ⟨Nat.zero_le _, by simp [rsizes], by simp, hs⟩ (fun x w hx => ?_)
  obtain ⟨hle, hrs, hgd, hs⟩ := hx
  have htl := tsizes_take_le ks x.1.length
  refine W_sr ?_
  refine s_pu (p_ltI rfl rfl) rfl ?_
  refine WL_th ?_
  refine W_seq ?_
  refine W_if rfl (fun h11 => ?_) (fun h11 => ?_)
  ·
   have hlt : x.1.length < ks.length := by simpa using h11
   obtain ⟨k, hki⟩ : ∃ k, ks[x.1.length]? = some k := ⟨_, List.getElem?_eq_getElem hlt⟩
   have hkm := List.mem_of_getElem? hki
   have hts := tsizes_take hki
   have htl2 := tsizes_take_le ks (x.1.length + 1)
   refine W_skip_th ?_
   refine W_join (fun e' w' => ∃ (rk : Rose) (v41 : Value), Good T rk ∧ rk.size ≤ 8 * k.size - 3 ∧ Ext e' (upd (upd (upd (upd (upd (upd emp 31 (.int .i64 x.1.length)) 30 (.int .i64 ks.length)) 29 (.slice ad ks.length cap)) 6 (.pointer (some ⟨b6, 0, none⟩))) 0 (.pointer (some ⟨mb, 0, none⟩))) 4 (.pointer (some ⟨b4, 0, none⟩))) ∧ St wI S w' [pt b6 31 19 (updC (nc ⟨14, typ, ⟨#[]⟩, text, text, (style == 2), l, p20, p20, x.2⟩) (0 + 18) v41), rowN v41 (x.1 ++ [rk]), hold (fun w => RepN w rk), hold (fun w => ∀ r ∈ x.1, RepN w r), pt mb 61 2 (mkC l ((c + 1 + (rsizes x.1 : Int)) + (rk.size : Int))), hold R, pt b4 31 19 z]) ?_ ?_
   ·
    refine W_block ?_
    refine W_sr ?_
    obtain ⟨hb0, hcell⟩ := hall _ (hR _ (hs.now .t4)).kids _ _ hki
    refine s_pu (p_elem (by show some (Value.slice ad ks.length cap) = _; rw [hb0]) rfl (by omega) (by omega)) rfl ?_
    refine s_at (m_loadA (n := 6) (g := tc k.t) rfl (by rw [Int.toNat_natCast]; exact hcell)) rfl ?_
    refine k_alloc hs rfl ?_
    intro b8 _ hs
    refine k_stW hs rfl rfl .head (tc_one ((hR _ (hs.now .t5)).all k hkm).kids.one) ?_
    intro _ hs
    refine WL_th ?_
    refine h_start (S := fun w => w.heap[b8]? = some (.cells (mkA 6 (tc k.t)) 24 (0, 0))) (ls := #[false, false, false, false, false, false, false, false, false]) (n := 9) (by kernel_rfl) (by kernel_rfl) ?_
    have hs := hs.drew
    refine h_pu 0 rfl (ls' := #[true, false, false, false, false, false, false, false, false]) (by kernel_rfl) (fun _ _ _ h => h) rfl (hs.cell .head) (p_field rfl) ?_
    refine h_pu 2 rfl (ls' := #[true, false, true, false, false, false, false, false, false]) (by kernel_rfl) (fun _ _ _ h => h) rfl (hs.cell .head) (p_move rfl) ?_
    refine h_take 3 rfl (ls' := #[true, false, true, true, false, false, false, false, false]) (by kernel_rfl) (fun _ _ _ h => h) rfl (hs.cell .head) (fun w hw => q_ldW rfl hw) ?_
    refine h_two 1 4 rfl rfl (ls' := #[true, true, true, true, false, false, false, false, false]) (ls'' := #[true, false, true, true, true, false, false, false, false]) (by kernel_rfl) ?_ ?_
    ·
     refine k_ld hs rfl .t1 rfl rfl ?_
     refine WL_th ⟨(hs.cell .head), ?_⟩
     refine h_one 4 rfl (ls' := #[true, true, true, true, true, false, false, false, false]) (by kernel_rfl) ?_
     have hs := hs.front .t5
     have hs := hs.front .t5
     refine k_spec [pt mb 61 2 (mkC l (c + 1 + (rsizes x.1 : Int))), hold R] (hNode k hkm R (fun w h => (hR w h).all k hkm) mb l (c + 1 + (rsizes x.1 : Int)) (by omega) (by have := one_le_tsize k; omega)) hs (.cons rfl (.cons rfl .nil)) rfl ?_
     rintro _ _ _ ⟨rk, rfl, hgk, hszk, hkeyk, rfl⟩ hs
     refine WL_th ⟨(hs.cell .t3), ?_⟩
     refine h_one 5 rfl (ls' := #[true, true, true, true, true, true, false, false, false]) (by kernel_rfl) ?_
     refine k_bs hs (.agg rfl .nil) rfl rfl rfl ?_
     intro b40 _ hs
     refine WL_th ⟨(hs.cell .t4), ?_⟩
     refine h_one 6 rfl (ls' := #[true, true, true, true, true, true, true, false, false]) (by kernel_rfl) ?_
     have hs := hs.front .t6
     refine k_app (n := x.1.length) hs rfl rfl .head rfl (one_lay (nc_one (hs.now (R := fun w => RepN w rk) .t3).one)) (by omega) (by omega) rfl ?_
     intro v41 _ hs
     have hs := hs.imp .head (rowN_snoc (r := rk))
     refine WL_th ⟨(hs.cell .t5), ?_⟩
     refine h_pu 7 rfl (ls' := #[true, true, true, true, true, true, true, true, false]) (by kernel_rfl) (fun _ _ _ h => h) rfl (hs.cell .t5) (p_field rfl) ?_
     refine h_one 8 rfl (ls' := #[true, true, true, true, true, true, true, true, true]) (by kernel_rfl) ?_
     refine k_st hs rfl rfl .t6 (row_one (hs.pick .head)) rfl ?_
     intro _ hs
     have hs := hs
     refine WL_th ⟨(hs.cell .t5), ?_⟩
     refine h_done (by kernel_rfl) ?_
     show ∃ _, _
     have hs := hs.front .t8
     have hs := hs.front .t5
     have hs := hs.front .t4
     have hs := hs.front .t8
     have hs := hs.front .t6
     have hs := hs.front .t5
     have hs := hs.front .t8
     have hs := St.cut (G1 := [_, _, _, _, _, _, _]) hs
     exact ⟨rk, v41, hgk, hszk, (Ext.cons rfl (Ext.cons rfl (Ext.cons rfl (Ext.cons rfl (Ext.cons rfl (Ext.cons rfl (Ext.nil _))))))), hs⟩
    ·
     have hs := hs.front .t5
     have hs := hs.front .t5
     refine k_spec [pt mb 61 2 (mkC l (c + 1 + (rsizes x.1 : Int))), hold R] (hNode k hkm R (fun w h => (hR w h).all k hkm) mb l (c + 1 + (rsizes x.1 : Int)) (by omega) (by have := one_le_tsize k; omega)) hs (.cons rfl (.cons rfl .nil)) rfl ?_
     rintro _ _ _ ⟨rk, rfl, hgk, hszk, hkeyk, rfl⟩ hs
     refine WL_th ⟨(hs.cell .t3), ?_⟩
     refine h_two 1 5 rfl rfl (ls' := #[true, true, true, true, true, false, false, false, false]) (ls'' := #[true, false, true, true, true, true, false, false, false]) (by kernel_rfl) ?_ ?_
     ·
      refine k_ld hs rfl .t4 rfl rfl ?_
      refine WL_th ⟨(hs.cell .t3), ?_⟩
      refine h_one 5 rfl (ls' := #[true, true, true, true, true, true, false, false, false]) (by kernel_rfl) ?_
      refine k_bs hs (.agg rfl .nil) rfl rfl rfl ?_
      intro b40 _ hs
      refine WL_th ⟨(hs.cell .t4), ?_⟩
      refine h_one 6 rfl (ls' := #[true, true, true, true, true, true, true, false, false]) (by kernel_rfl) ?_
      have hs := hs.front .t6
      refine k_app (n := x.1.length) hs rfl rfl .head rfl (one_lay (nc_one (hs.now (R := fun w => RepN w rk) .t3).one)) (by omega) (by omega) rfl ?_
      intro v41 _ hs
      have hs := hs.imp .head (rowN_snoc (r := rk))
      refine WL_th ⟨(hs.cell .t5), ?_⟩
      refine h_pu 7 rfl (ls' := #[true, true, true, true, true, true, true, true, false]) (by kernel_rfl) (fun _ _ _ h => h) rfl (hs.cell .t5) (p_field rfl) ?_
      refine h_one 8 rfl (ls' := #[true, true, true, true, true, true, true, true, true]) (by kernel_rfl) ?_
      refine k_st hs rfl rfl .t6 (row_one (hs.pick .head)) rfl ?_
      intro _ hs
      have hs := hs
      refine WL_th ⟨(hs.cell .t5), ?_⟩
      refine h_done (by kernel_rfl) ?_
      show ∃ _, _
      have hs := hs.front .t8
      have hs := hs.front .t5
      have hs := hs.front .t4
      have hs := hs.front .t8
      have hs := hs.front .t6
      have hs := hs.front .t5
      have hs := hs.front .t8
      have hs := St.cut (G1 := [_, _, _, _, _, _, _]) hs
      exact ⟨rk, v41, hgk, hszk, (Ext.cons rfl (Ext.cons rfl (Ext.cons rfl (Ext.cons rfl (Ext.cons rfl (Ext.cons rfl (Ext.nil _))))))), hs⟩
     ·
      refine k_bs hs (.agg rfl .nil) rfl rfl rfl ?_
      intro b40 _ hs
      refine WL_th ⟨(hs.cell .t4), ?_⟩
      refine h_one 1 rfl (ls' := #[true, true, true, true, true, true, false, false, false]) (by kernel_rfl) ?_
      refine k_ld hs rfl .t5 rfl rfl ?_
      refine WL_th ⟨(hs.cell .t4), ?_⟩
      refine h_one 6 rfl (ls' := #[true, true, true, true, true, true, true, false, false]) (by kernel_rfl) ?_
      have hs := hs.front .t6
      refine k_app (n := x.1.length) hs rfl rfl .head rfl (one_lay (nc_one (hs.now (R := fun w => RepN w rk) .t3).one)) (by omega) (by omega) rfl ?_
      intro v41 _ hs
      have hs := hs.imp .head (rowN_snoc (r := rk))
      refine WL_th ⟨(hs.cell .t5), ?_⟩
      refine h_pu 7 rfl (ls' := #[true, true, true, true, true, true, true, true, false]) (by kernel_rfl) (fun _ _ _ h => h) rfl (hs.cell .t5) (p_field rfl) ?_
      refine h_one 8 rfl (ls' := #[true, true, true, true, true, true, true, true, true]) (by kernel_rfl) ?_
      refine k_st hs rfl rfl .t6 (row_one (hs.pick .head)) rfl ?_
      intro _ hs
      have hs := hs
      refine WL_th ⟨(hs.cell .t5), ?_⟩
      refine h_done (by kernel_rfl) ?_
      show ∃ _, _
      have hs := hs.front .t8
      have hs := hs.front .t5
      have hs := hs.front .t4
      have hs := hs.front .t8
      have hs := hs.front .t6
      have hs := hs.front .t5
      have hs := hs.front .t8
      have hs := St.cut (G1 := [_, _, _, _, _, _, _]) hs
      exact ⟨rk, v41, hgk, hszk, (Ext.cons rfl (Ext.cons rfl (Ext.cons rfl (Ext.cons rfl (Ext.cons rfl (Ext.cons rfl (Ext.nil _))))))), hs⟩
   ·
    rintro e1 w1 ⟨rk, v41, hgk, hszk, hx, hs⟩
    refine W_forget hx ?_
    clear hx
    have hs := hs.imp .head (pt_to (g := nc ⟨14, typ, ⟨#[]⟩, text, text, (style == 2), l, p20, p20, v41⟩) (by repeat (first | exact below_zero | refine below_succ ?_ rfl)))
    refine W_reg ?_
    refine s_pu (p_addI rfl rfl ?_) rfl ?_
    ·
     (first | assumption | omega)
    refine s_pu (p_move rfl) rfl ?_
    refine WL_th ?_
    have e1 : c + 1 + (rsizes x.1 : Int) + (rk.size : Int) = c + 1 + ((rsizes (x.1 ++ [rk]) : Nat) : Int) := by rw [rsizes_app]; simp [rsizes]; omega
    rw [e1] at hs
    have hs := hs.front .t2
    have hs := hs.front .t3
    have hs := hs.hold_and
    have hs := hs.hold_imp (R' := fun w => ∀ r ∈ x.1 ++ [rk], RepN w r) (fun w h => all_snoc h.1 h.2)
    have hs := hs.front .t2
    have hs := hs.front .t2
    refine ⟨(x.1 ++ [rk], v41), (Ext.cons rfl (Ext.cons rfl (Ext.cons rfl (Ext.cons rfl (Ext.cons rfl (Ext.cons (by show some (Value.int .i64 ((x.1.length : Int) + 1)) = _; simp) (Ext.nil _))))))), ⟨by simp; omega, ?_, all_snoc hgd hgk, hs⟩, by simp; omega⟩
    have e2 := tsizes_take hki
    simp only [List.length_append, List.length_singleton, rsizes_app, rsizes]
    rw [e2]
    have := one_le_tsize k
    omega
  ·
   refine W_exit ?_
   show W _ _ _ _ _ _
   refine W_sr ?_
   refine k_ldW hs rfl .head rfl ?_
   refine k_stW hs rfl rfl .t5 (nc_one (row_one (hs.pick .t1))) ?_
   intro _ hs
   refine WL_th ?_
   refine W_ret ?_
   refine th_ret ?_
   refine ret_cell (fn := Tryz.f33) (n := 19) rfl rfl hs .t5 ?_
   have hfull : x.1.length = ks.length := by have : ¬ (x.1.length < ks.length) := (by simpa using h11); omega
   have hs := hs.front .t2
   have hs := hs.front .t2
   have hs := MW.St.seal_kids (n := ⟨14, typ, ⟨#[]⟩, text, text, (style == 2), l, p20, p20, x.2⟩) (rs := x.1) (v := x.2) hs rfl
   have hs := hs.front .t3
   have hs := hs.front .t1
   have hs := hs.front .t3
   have hs := St.cut (G1 := [_, _, _]) hs
   refine hs.spec ⟨.mk ⟨14, typ, ⟨#[]⟩, text, text, (style == 2), l, p20, p20, x.2⟩ x.1, rfl, .seq rfl hgd, ?_, fun h => by exfalso; have h3 : (2 : Int) = 1 := h.1; omega, ?_⟩
   ·
    rw [hfull, List.take_length] at hrs; simp only [Rose.size, TT.size]; omega
   ·
    have e1 : c + 1 + (rsizes x.1 : Int) = c + ((Rose.size (.mk ⟨14, typ, ⟨#[]⟩, text, text, (style == 2), l, p20, p20, x.2⟩ x.1) : Nat) : Int) := by simp only [Rose.size]; omega
    rw [← e1]
end Go.Proofs.YtmalghopogngoaaGreatDoor
set_option linter.unusedVariables false
set_option linter.unusedSimpArgs false
set_option maxRecDepth 4000
namespace Go.Proofs.YtmalghopogngoaaGreatDoor
open Go Go.RowKit MW
theorem recs_two (r s : Rose) {z : Nat → Value} : ∀ i, i < 2 * 19 → lay (lay z ((0 + 1) * 19) 19 (nc s.n)) (0 * 19) 19 (nc r.n) i = recs 19 (fun r : Rose => nc r.n) [r, s] i :=
 recs_ext (by omega) fun i j hi hj => by
  have hi' : i = 0 ∨ i = 1 := by omega
  rcases hi' with rfl | rfl
  ·
   rw [recs_at (a := r) rfl hj]
   simp only [Nat.zero_mul, Nat.zero_add]
   exact lay_all j hj
  ·
   rw [recs_at (a := s) rfl hj]
   unfold lay
   have e1 : (Nat.ble (0 * 19) (1 * 19 + j) && Nat.blt (1 * 19 + j) (0 * 19 + 19)) = false := by
    cases hb : (Nat.ble (0 * 19) (1 * 19 + j) && Nat.blt (1 * 19 + j) (0 * 19 + 19)) with
    | false => rfl
    | true =>
     rw [Bool.and_eq_true] at hb
     have h2 : 1 * 19 + j + 1 ≤ 0 * 19 + 19 := Nat.le_of_ble_eq_true hb.2
     omega
   have e2 : Nat.ble ((0 + 1) * 19) (1 * 19 + j) = true := Nat.ble_eq_true_of_le (by omega)
   have e3 : Nat.blt (1 * 19 + j) ((0 + 1) * 19 + 19) = true := Nat.ble_eq_true_of_le (by omega)
   rw [e1, e2, e3]
   show nc s.n (1 * 19 + j - (0 + 1) * 19) = nc s.n j
   congr 1
   omega
theorem c_mpairs {T : ByteArray → Prop} (t : TRec) (ks : List TT) (hk3 : t.kind = 3) (hKey : ∀ i k, ks[2 * i]? = some k → IsKey k.t) (hNode : ∀ k ∈ ks, NodeOK T (8 * k.size - 3) k) (R : World → Prop) (hR : ∀ w, R w → RepT w (.mk t ks)) (mb : Nat) (l c : Int) (h1 : 1 ≤ c) (h2 : c + ((8 * (TT.mk t ks).size - 6 : Nat) : Int) ≤ 900000000) :
  MW.Spec Tryz.prog 33 [.pointer (some ⟨mb, 0, none⟩), .agg (mkA 6 (tc t))].toArray [pt mb 61 2 (mkC l c), hold R] (MadeR T [hold R] mb l c (8 * (TT.mk t ks).size - 6) (IsKey t)) := by
 intro wI S hsat
 have hs := St.start hsat
 obtain ⟨kind, value, anchor, tag, style, kv⟩ := t
 obtain rfl : kind = 3 := hk3
 obtain ⟨ad, cap, b0, o0, hv, hall⟩ := (hR _ (hs.now .t1)).kids.out
 obtain rfl : kv = .slice ad ks.length cap := hv
 have hlk := tlength_size ks
 simp only [TT.size] at h2
 refine calls_W (args := [_, _]) Tryz.func33 rfl Tryz.ntmps33 rfl ?_
 refine W_sr ?_
 refine k_box hs rfl rfl ?_
 intro b3 _ hs
 refine k_alloc hs rfl ?_
 intro b4 _ hs
 refine WL_th ?_
 refine W_sr ?_
 refine s_pu (p_field rfl) rfl ?_
 refine k_ld hs rfl .t1 rfl rfl ?_
 refine s_pu (p_eqI rfl rfl) rfl ?_
 refine s_pu (p_assign rfl) rfl ?_
 refine WL_th ?_
 refine W_seq ?_
 refine W_sr ?_
 refine s_pu (p_field rfl) rfl ?_
 refine k_ld hs rfl .t1 rfl rfl ?_
 refine s_pu (p_eqI rfl rfl) rfl ?_
 refine WL_th ?_
 refine W_false rfl ?_
 refine W_skip_th ?_
 refine W_sr ?_
 refine s_pu (p_move rfl) rfl ?_
 have hs := hs.front .t2
 refine k_spec [pt mb 61 2 (mkC l c)] (c_place mb l c (by omega) (by omega)) hs (.cons rfl .nil) rfl ?_
 rintro _ _ _ ⟨p46, rfl, rfl⟩ hs
 refine k_quiet (c_wrNodeE 11 _ (by decide) _ _ _ _) hs (.cons rfl (.cons rfl (.cons rfl (.cons rfl .nil)))) rfl ?_
 rintro _ _ rfl hs _
 refine k_alloc hs rfl ?_
 intro b9 _ hs
 refine k_stW hs rfl rfl .head (nc_one rfl) ?_
 intro _ hs
 refine WL_th ?_
 refine W_sr ?_
 refine s_pu (p_move rfl) rfl ?_
 refine s_pu (p_field rfl) rfl ?_
 refine k_st hs rfl rfl .head rfl rfl ?_
 intro _ hs
 refine WL_th ?_
 refine W_forget (Ext.cd 0 rfl (Ext.cd 3 rfl (Ext.cd 4 rfl (Ext.cd 5 rfl (Ext.cd 9 rfl (Ext.nil _)))))) ?_
 refine W_seq ?_
 refine W_sr ?_
 refine s_pu (p_assign rfl) rfl ?_
 refine WL_th ?_
 refine W_block ?_
 have hs := hs.imp .head (pt_to (g := nc ⟨11, 10, ⟨#[]⟩, ⟨#[123]⟩, ⟨#[123]⟩, (style == 2), l, p46, p46, .slice none 0 0⟩) (by repeat (first | exact below_zero | refine below_succ ?_ rfl)))
 have hs := (hs.rowNil 31 19 (recs 19 (fun r : Rose => nc r.n) [])).holdT (R := fun w => ∀ r ∈ ([] : List Rose), RepN w r) (fun w r h => by simp at h)
 have hs := hs.front .t5
 have hs := hs.front .t5
 have hs := hs.front .t6
 have hs := hs.front .t6
 have hs := hs.front .t4
 have hs := hs.front .t5
 have hs := hs.front .t6
 have hs := St.cut (G1 := [_, _, _, _, _, _, _]) hs
 have ec : c + 1 = c + 1 + ((rsizes [] : Nat) : Int) := by simp [rsizes]
 rw [ec] at hs
 generalize hz : cl [Value.int .i64 0, Value.int .i64 0, Value.string ⟨#[]⟩, Value.string ⟨#[]⟩, Value.string ⟨#[]⟩, Value.string ⟨#[]⟩, Value.bool false, Value.bool false, Value.bool false, Value.int .i64 0, Value.int .i64 0, Value.int .i64 0, Value.int .i64 0, Value.int .i64 0, Value.slice none 0 0, Value.slice none 0 0, Value.slice none 0 0, Value.slice none 0 0, Value.slice none 0 0] = z at hs
 refine W_loop (α := List Rose × Value) (fun x => (upd (upd (upd (upd (upd (upd emp 10 (.int .i64 ((2 * x.1.length : Nat) : Int))) 9 (.pointer (some ⟨b9, 0, none⟩))) 5 (.bool (style == 2))) 4 (.pointer (some ⟨b4, 0, none⟩))) 3 (.pointer (some ⟨b3, 0, none⟩))) 0 (.pointer (some ⟨mb, 0, none⟩)))) (fun x w => 2 * x.1.length ≤ ks.length ∧ rsizes x.1 ≤ 8 * tsizes (ks.take (2 * x.1.length)) ∧ (∀ r ∈ x.1, Good T r) ∧ (∀ r ∈ x.1, r.n.kind = 13) ∧ St wI S w [pt b9 31 19 (nc ⟨11, 10, ⟨#[]⟩, ⟨#[123]⟩, ⟨#[123]⟩, (style == 2), l, p46, p46, x.2⟩), rowN x.2 x.1, hold (fun w => ∀ r ∈ x.1, RepN w r), pt mb 61 2 (mkC l (c + 1 + (rsizes x.1 : Int))), hold R, pt b4 31 19 z, pt b3 24 6 (tc ⟨3, value, anchor, tag, style, .slice ad ks.length cap⟩)]) (fun x => ks.length - x.1.length) ([], .slice none 0 0) (Ext.cons rfl (Ext.cons rfl (Ext.cons rfl (Ext.cons rfl (Ext.cons rfl (Ext.cons rfl (Ext.nil _))))))) ⟨Nat.zero_le _, by simp [rsizes], by simp, by simp, hs⟩ (fun x w hx => ?_)
 obtain ⟨hle, hrs, hgd, h13, hs⟩ := hx
 have htl := tsizes_take_le ks (2 * x.1.length)
 refine W_seq ?_
 refine W_sr ?_
 refine s_pu (p_move rfl) rfl ?_
 refine s_pu (p_addI rfl rfl ?_) rfl ?_
 ·
  omega
 refine s_pu (p_field rfl) rfl ?_
 refine k_ld hs rfl .t6 rfl rfl ?_
 refine s_pu (p_lenL rfl) rfl ?_
 refine s_pu (p_ltI rfl rfl) rfl ?_
 refine WL_th ?_
 refine W_if rfl (fun h11 => ?_) (fun h11 => ?_)
 ·
  have hlt : 2 * x.1.length + 1 < ks.length := by have := of_decide_eq_true h11; omega
  obtain ⟨k, hki⟩ : ∃ k, ks[2 * x.1.length]? = some k := ⟨_, List.getElem?_eq_getElem (by omega)⟩
  have hkm := List.mem_of_getElem? hki
  obtain ⟨j, hji⟩ : ∃ j, ks[2 * x.1.length + 1]? = some j := ⟨_, List.getElem?_eq_getElem (by omega)⟩
  have hjm := List.mem_of_getElem? hji
  have hts := tsizes_take hki
  have hts2 := tsizes_take hji
  have htl2 := tsizes_take_le ks (2 * x.1.length + 1 + 1)
  have hkk := hKey _ _ hki
  refine W_skip_th ?_
  refine W_seq ?_
  refine W_block ?_
  refine W_sr ?_
  refine s_pu (p_move rfl) rfl ?_
  refine s_pu (p_field rfl) rfl ?_
  refine k_ld hs rfl .t6 rfl rfl ?_
  refine s_pu (p_move rfl) rfl ?_
  obtain ⟨hb0, hcell⟩ := hall _ (hR _ (hs.now .t4)).kids _ _ hki
  refine s_pu (p_elem (by show some (Value.slice ad ks.length cap) = _; rw [hb0]) rfl (by omega) (by omega)) rfl ?_
  refine s_at (m_loadA (n := 6) (g := tc k.t) rfl (by rw [Int.toNat_natCast]; exact hcell)) rfl ?_
  have hs := hs.front .t4
  have hs := hs.front .t4
  refine k_spec [pt mb 61 2 (mkC l (c + 1 + (rsizes x.1 : Int))), hold R] (hNode k hkm R (fun w h => (hR w h).all k hkm) mb l (c + 1 + (rsizes x.1 : Int)) (by omega) (by have := one_le_tsize k; omega)) hs (.cons rfl (.cons rfl .nil)) rfl ?_
  rintro _ _ _ ⟨rk, rfl, hgk, hszk, hkeyk, rfl⟩ hs
  refine k_alloc hs rfl ?_
  intro b11 _ hs
  refine k_stW hs rfl rfl .head (nc_one (hs.now (R := fun w => RepN w rk) .t2).one) ?_
  intro _ hs
  refine WL_th ?_
  refine W_forget (Ext.cd 0 rfl (Ext.cd 3 rfl (Ext.cd 4 rfl (Ext.cd 5 rfl (Ext.cd 9 rfl (Ext.cd 10 rfl (Ext.cd 11 rfl (Ext.nil _)))))))) ?_
  refine W_sr ?_
  refine s_pu (p_move rfl) rfl ?_
  have hs := hs.front .t1
  refine k_spec [pt mb 61 2 (mkC l ((c + 1 + (rsizes x.1 : Int)) + (rk.size : Int)))] (c_place mb l ((c + 1 + (rsizes x.1 : Int)) + (rk.size : Int)) (by omega) (by omega)) hs (.cons rfl .nil) rfl ?_
  rintro _ _ _ ⟨p66, rfl, rfl⟩ hs
  refine k_quiet (c_wrNodeE 13 _ (by decide) _ _ _ _) hs (.cons rfl (.cons rfl (.cons rfl (.cons rfl .nil)))) rfl ?_
  rintro _ _ rfl hs _
  refine k_alloc hs rfl ?_
  intro b12 _ hs
  refine k_stW hs rfl rfl .head (nc_one rfl) ?_
  intro _ hs
  refine WL_th ?_
  refine W_sr ?_
  refine s_pu (p_move rfl) rfl ?_
  refine s_pu (p_field rfl) rfl ?_
  refine k_st hs rfl rfl .head rfl rfl ?_
  intro _ hs
  refine WL_th ?_
  refine W_seq ?_
  refine h_start (S := fun w => w.heap[b11]? = some (.cells (mkA 19 (nc rk.n)) 31 (0, 0)) ∧ w.heap[b3]? = some (.cells (mkA 6 (tc ⟨3, value, anchor, tag, style, .slice ad ks.length cap⟩)) 24 (0, 0)) ∧ R w) (ls := #[false, false, false, false, false, false, false, false, false, false, false, false]) (n := 12) (by kernel_rfl) (by kernel_rfl) ?_
  have hs := hs.drew
  refine h_take 0 rfl (ls' := #[true, false, false, false, false, false, false, false, false, false, false, false]) (by kernel_rfl) (fun _ _ _ h => h) rfl ⟨hs.cell .t2, hs.cell .t9, hs.now .t4⟩ (fun w hw => q_ldW rfl hw.1) ?_
  refine h_pu 1 rfl (ls' := #[true, true, false, false, false, false, false, false, false, false, false, false]) (by kernel_rfl) (fun _ _ _ h => h) rfl ⟨hs.cell .t2, hs.cell .t9, hs.now .t4⟩ (p_move rfl) ?_
  refine h_pu 2 rfl (ls' := #[true, true, true, false, false, false, false, false, false, false, false, false]) (by kernel_rfl) (fun _ _ _ h => h) rfl ⟨hs.cell .t2, hs.cell .t9, hs.now .t4⟩ (p_field rfl) ?_
  refine h_take 3 rfl (ls' := #[true, true, true, true, false, false, false, false, false, false, false, false]) (by kernel_rfl) (fun _ _ _ h => h) rfl ⟨hs.cell .t2, hs.cell .t9, hs.now .t4⟩ (fun w hw => q_ld rfl hw.2.1 rfl) ?_
  refine h_pu 4 rfl (ls' := #[true, true, true, true, true, false, false, false, false, false, false, false]) (by kernel_rfl) (fun _ _ _ h => h) rfl ⟨hs.cell .t2, hs.cell .t9, hs.now .t4⟩ (p_move rfl) ?_
  refine h_pu 5 rfl (ls' := #[true, true, true, true, true, true, false, false, false, false, false, false]) (by kernel_rfl) (fun _ _ _ h => h) rfl ⟨hs.cell .t2, hs.cell .t9, hs.now .t4⟩ (p_addI rfl rfl ?_) ?_
  ·
   omega
  refine h_pu 6 rfl (ls' := #[true, true, true, true, true, true, true, false, false, false, false, false]) (by kernel_rfl) (fun _ _ _ h => h) rfl ⟨hs.cell .t2, hs.cell .t9, hs.now .t4⟩ (p_elem (by show some (Value.slice ad ks.length cap) = _; rw [hb0]) rfl (by omega) (by omega)) ?_
  refine h_take 7 rfl (ls' := #[true, true, true, true, true, true, true, true, false, false, false, false]) (by kernel_rfl) (fun _ _ _ h => h) rfl ⟨hs.cell .t2, hs.cell .t9, hs.now .t4⟩ (fun w hw => m_loadA (n := 6) (g := tc j.t) rfl (by have e1 : (((2 * x.1.length : Nat) : Int) + 1).toNat = 2 * x.1.length + 1 := (by omega); rw [e1]; exact (hall _ (hR _ hw.2.2).kids _ _ hji).2)) ?_
  refine h_one 8 rfl (ls' := #[true, true, true, true, true, true, true, true, true, false, false, false]) (by kernel_rfl) ?_
  have hs := hs.front .t4
  have hs := hs.front .t2
  refine k_spec [pt mb 61 2 (mkC l (((c + 1 + (rsizes x.1 : Int)) + (rk.size : Int)) + 1)), hold R] (hNode j hjm R (fun w h => (hR w h).all j hjm) mb l (((c + 1 + (rsizes x.1 : Int)) + (rk.size : Int)) + 1) (by omega) (by have := one_le_tsize j; omega)) hs (.cons rfl (.cons rfl .nil)) rfl ?_
  rintro _ _ _ ⟨rj, rfl, hgj, hszj, hkeyj, rfl⟩ hs
  refine WL_th ⟨⟨hs.cell .t4, hs.cell .t10, hs.now .t2⟩, ?_⟩
  refine h_one 9 rfl (ls' := #[true, true, true, true, true, true, true, true, true, true, false, false]) (by kernel_rfl) ?_
  refine k_bs hs (.agg rfl (.agg rfl .nil)) rfl rfl rfl ?_
  intro b79 _ hs
  have hs := hs.imp .head (pt_row (n := 2) (sz := 19) rfl (maxLen_big rfl))
  have hs := hs.imp .head (row_to (g := recs 19 (fun r : Rose => nc r.n) [rk, rj]) (recs_two rk rj))
  refine WL_th ⟨⟨hs.cell .t5, hs.cell .t11, hs.now .t3⟩, ?_⟩
  refine h_pu 10 rfl (ls' := #[true, true, true, true, true, true, true, true, true, true, true, false]) (by kernel_rfl) (fun _ _ _ h => h) rfl ⟨hs.cell .t5, hs.cell .t11, hs.now .t3⟩ (p_field rfl) ?_
  refine h_one 11 rfl (ls' := #[true, true, true, true, true, true, true, true, true, true, true, true]) (by kernel_rfl) ?_
  refine k_st hs rfl rfl .t4 rfl rfl ?_
  intro _ hs
  have hs := hs
  refine WL_th ⟨⟨hs.cell .t5, hs.cell .t11, hs.now .t3⟩, ?_⟩
  refine h_done (by kernel_rfl) ?_
  show W _ _ _ _ _ _
  refine W_forget (Ext.cd 0 rfl (Ext.cd 3 rfl (Ext.cd 4 rfl (Ext.cd 5 rfl (Ext.cd 9 rfl (Ext.cd 10 rfl (Ext.cd 12 rfl (Ext.nil _)))))))) ?_
  refine W_reg ?_
  refine s_pu (p_field rfl) rfl ?_
  refine k_ld hs rfl .t7 rfl rfl ?_
  have hs := hs.imp .t4 (pt_to (g := nc ⟨13, 5, ⟨#[]⟩, ⟨#[58]⟩, ⟨#[58]⟩, (style == 2), l, p66, p66, (.slice (some ⟨b79, 0, none⟩) 2 2)⟩) (by repeat (first | exact below_zero | refine below_succ ?_ rfl)))
  refine k_ldW hs rfl .t4 rfl ?_
  refine k_bs hs (.agg rfl .nil) rfl rfl rfl ?_
  intro b84 _ hs
  have hs := hs.front .t3
  have hs := hs.front .t7
  have hs := hs.hold_and
  have hs := hs.hold_imp (R' := fun w => ∀ r ∈ [rk, rj], RepN w r) (fun w h r hr => by simp only [List.mem_cons, List.not_mem_nil, or_false] at hr; rcases hr with rfl | rfl <;> first | exact h.1 | exact h.2)
  have hs := hs.front .head
  have hs := hs.front .t2
  have hs := MW.St.seal_kids (n := ⟨13, 5, ⟨#[]⟩, ⟨#[58]⟩, ⟨#[58]⟩, (style == 2), l, p66, p66, (.slice (some ⟨b79, 0, none⟩) 2 2)⟩) (rs := [rk, rj]) (v := .slice (some ⟨b79, 0, none⟩) 2 2) hs rfl
  have hs := hs.front .t7
  refine k_app (n := x.1.length) hs rfl rfl .t1 rfl (one_lay (nc_one (n := ⟨13, 5, ⟨#[]⟩, ⟨#[58]⟩, ⟨#[58]⟩, (style == 2), l, p66, p66, (.slice (some ⟨b79, 0, none⟩) 2 2)⟩) rfl)) (by omega) (by omega) rfl ?_
  intro v85 _ hs
  have hs := hs.imp .head (rowN_snoc (r := .mk ⟨13, 5, ⟨#[]⟩, ⟨#[58]⟩, ⟨#[58]⟩, (style == 2), l, p66, p66, (.slice (some ⟨b79, 0, none⟩) 2 2)⟩ [rk, rj]))
  refine s_pu (p_field rfl) rfl ?_
  refine k_st hs rfl rfl .t7 (row_one (hs.pick .head)) rfl ?_
  intro _ hs
  have hs := hs
  refine WL_nil ?_
  show W _ _ _ _ _ _
  refine W_reg ?_
  refine s_pu (p_move rfl) rfl ?_
  refine s_pu (p_addI rfl rfl ?_) rfl ?_
  ·
   omega
  refine s_pu (p_assign rfl) rfl ?_
  refine WL_th ?_
  have hs := hs.front .t10
  have hs := hs.front .t10
  have hs := hs.front .t6
  have hs := hs.front .t6
  have hs := hs.front .t10
  have hs := hs.front .t6
  have hs := hs.front .t6
  have hs := hs.front .t10
  have hs := St.cut (G1 := [_, _, _, _, _, _, _, _]) hs
  have hs := hs.imp .head (pt_to (g := nc ⟨11, 10, ⟨#[]⟩, ⟨#[123]⟩, ⟨#[123]⟩, (style == 2), l, p46, p46, v85⟩) (by repeat (first | exact below_zero | refine below_succ ?_ rfl)))
  have e1 : c + 1 + (rsizes x.1 : Int) + (rk.size : Int) + 1 + (rj.size : Int) = c + 1 + ((rsizes (x.1 ++ [Rose.mk ⟨13, 5, ⟨#[]⟩, ⟨#[58]⟩, ⟨#[58]⟩, (style == 2), l, p66, p66, (.slice (some ⟨b79, 0, none⟩) 2 2)⟩ [rk, rj]]) : Nat) : Int) := by rw [rsizes_app]; simp [rsizes, Rose.size]; omega
  rw [e1] at hs
  have hs := hs.front .t2
  have hs := hs.front .t3
  have hs := hs.hold_and
  have hs := hs.hold_imp (R' := fun w => ∀ r ∈ x.1 ++ [Rose.mk ⟨13, 5, ⟨#[]⟩, ⟨#[58]⟩, ⟨#[58]⟩, (style == 2), l, p66, p66, (.slice (some ⟨b79, 0, none⟩) 2 2)⟩ [rk, rj]], RepN w r) (fun w h => all_snoc h.1 h.2)
  have hs := hs.front .t2
  have hs := hs.front .t2
  refine ⟨(x.1 ++ [Rose.mk ⟨13, 5, ⟨#[]⟩, ⟨#[58]⟩, ⟨#[58]⟩, (style == 2), l, p66, p66, (.slice (some ⟨b79, 0, none⟩) 2 2)⟩ [rk, rj]], v85), (Ext.cons rfl (Ext.cons rfl (Ext.cons rfl (Ext.cons rfl (Ext.cons rfl (Ext.cons (by show some (Value.int .i64 (((2 * x.1.length : Nat) : Int) + 2)) = _; simp; omega) (Ext.nil _))))))), ⟨by simp; omega, ?_, all_snoc hgd (.pair rfl (hkeyk hkk).1 (hkeyk hkk).2 hgk hgj), all_snoc h13 rfl, hs⟩, by simp; omega⟩
  simp only [List.length_append, List.length_singleton, rsizes_app, rsizes, Rose.size]
  have e3 : 2 * (x.1.length + 1) = 2 * x.1.length + 1 + 1 := by omega
  rw [e3, tsizes_take hji, tsizes_take hki]
  have := one_le_tsize k
  have := one_le_tsize j
  omega
 ·
  refine W_exit ?_
  show W _ _ _ _ _ _
  refine W_sr ?_
  refine k_ldW hs rfl .head rfl ?_
  refine k_stW hs rfl rfl .t5 (nc_one (row_one (hs.pick .t1))) ?_
  intro _ hs
  refine WL_th ?_
  refine W_forget (Ext.cd 4 rfl (Ext.nil _)) ?_
  refine W_ret ?_
  refine ret_cell (fn := Tryz.f33) (n := 19) rfl rfl hs .t5 ?_
  have hs := hs.front .t2
  have hs := hs.front .t2
  have hs := MW.St.seal_kids (n := ⟨11, 10, ⟨#[]⟩, ⟨#[123]⟩, ⟨#[123]⟩, (style == 2), l, p46, p46, x.2⟩) (rs := x.1) (v := x.2) hs rfl
  have hs := hs.front .t3
  have hs := hs.front .t1
  have hs := hs.front .t3
  have hs := St.cut (G1 := [_, _, _]) hs
  refine hs.spec ⟨.mk ⟨11, 10, ⟨#[]⟩, ⟨#[123]⟩, ⟨#[123]⟩, (style == 2), l, p46, p46, x.2⟩ x.1, rfl, .map rfl h13 hgd, ?_, fun h => by exfalso; have h3 : (3 : Int) = 1 := h.1; omega, ?_⟩
  ·
   simp only [Rose.size, TT.size]; omega
  ·
   have e1 : c + 1 + (rsizes x.1 : Int) = c + ((Rose.size (.mk ⟨11, 10, ⟨#[]⟩, ⟨#[123]⟩, ⟨#[123]⟩, (style == 2), l, p46, p46, x.2⟩ x.1) : Nat) : Int) := by simp only [Rose.size]; omega
   rw [← e1]
end Go.Proofs.YtmalghopogngoaaGreatDoor
set_option linter.unusedVariables false
set_option linter.unusedSimpArgs false
set_option maxRecDepth 4000
namespace Go.Proofs.YtmalghopogngoaaGreatDoor
open Go Go.RowKit MW
def ne (s : ByteArray) : Bool := !(s.toList == (⟨#[]⟩ : ByteArray).toList)
theorem ne_emp : ne ⟨#[]⟩ = false := by unfold ne; simp
theorem RepT.with {w : World} {t t' : TRec} {ks : List TT} (h : RepT w (.mk t ks)) (hk : t'.kids = t.kids) : RepT w (.mk t' ks) := .mk (by rw [hk]; exact h.kids) h.all
theorem NodeOK.mono {T : ByteArray → Prop} {a b : Nat} {t : TT} (h : NodeOK T a t) (hab : a ≤ b) : NodeOK T b t := fun R hR mb l c h1 h2 w S hs =>
 CallsR.mono (h R hR mb l c h1 (by omega) w S hs) fun v w' ⟨G', S', ⟨r, e1, e2, e3, e4, e5⟩, x⟩ => ⟨G', S', ⟨r, e1, e2, Nat.le_trans e3 hab, e4, e5⟩, x⟩
theorem c_node_alias {T : ByteArray → Prop} (t : TRec) (ks : List TT) (hk : t.kind = 4) : NodeOK T (2) (.mk t ks) := by
 intro R hR mb l c h1 h2 wI S hsat
 have hs := St.start hsat
 have hlk := one_le_tsize (.mk t ks)
 obtain ⟨kind, value, anchor, tag, style, kv⟩ := t
 obtain rfl : kind = 4 := hk
 refine calls_W (args := [_, _]) Tryz.func17 rfl Tryz.ntmps17 rfl ?_
 refine W_sr ?_
 refine k_box hs rfl rfl ?_
 intro b3 _ hs
 refine k_alloc hs rfl ?_
 intro b4 _ hs
 refine WL_th ?_
 refine W_seq ?_
 refine W_block ?_
 refine W_sr ?_
 refine s_pu (p_field rfl) rfl ?_
 refine k_ld hs rfl .t1 rfl rfl ?_
 refine s_pu (p_eqI rfl rfl) rfl ?_
 refine s_pu (p_assign rfl) rfl ?_
 refine WL_th ?_
 refine W_true rfl ?_
 refine W_sr ?_
 refine s_pu (p_move rfl) rfl ?_
 have hs := hs.front .t2
 refine k_spec [pt mb 61 2 (mkC l c)] (c_place mb l c (by omega) (by omega)) hs (.cons rfl .nil) rfl ?_
 rintro _ _ _ ⟨p13, rfl, rfl⟩ hs
 refine k_quiet (c_wrNodeE 17 _ (by decide) _ _ _ _) hs (.cons rfl (.cons rfl (.cons rfl (.cons rfl .nil)))) rfl ?_
 rintro _ _ rfl hs _
 refine k_alloc hs rfl ?_
 intro b5 _ hs
 refine k_stW hs rfl rfl (by repeat (first | exact .head | apply Put.tail)) (nc_one rfl) ?_
 intro _ hs
 refine WL_th ?_
 refine W_seq ?_
 refine h_start (S := fun w => w.heap[b3]? = some (.cells (mkA 6 (tc ⟨4, value, anchor, tag, style, kv⟩)) 24 (0, 0))) (ls := #[false, false, false, false, false, false, false, false, false, false, false, false]) (n := 12) (by kernel_rfl) (by kernel_rfl) ?_
 have hs := hs.drew
 refine h_pu 0 rfl (ls' := #[true, false, false, false, false, false, false, false, false, false, false, false]) (by kernel_rfl) (fun _ _ _ h => h) rfl (hs.cell .t3) (p_field rfl) ?_
 refine h_take 1 rfl (ls' := #[true, true, false, false, false, false, false, false, false, false, false, false]) (by kernel_rfl) (fun _ _ _ h => h) rfl (hs.cell .t3) (fun w hw => q_ld rfl hw rfl) ?_
 refine h_pu 2 rfl (ls' := #[true, true, true, false, false, false, false, false, false, false, false, false]) (by kernel_rfl) (fun _ _ _ h => h) rfl (hs.cell .t3) (p_field rfl) ?_
 refine h_take 3 rfl (ls' := #[true, true, true, true, false, false, false, false, false, false, false, false]) (by kernel_rfl) (fun _ _ _ h => h) rfl (hs.cell .t3) (fun w hw => q_ld rfl hw rfl) ?_
 refine h_pu 4 rfl (ls' := #[true, true, true, true, true, false, false, false, false, false, false, false]) (by kernel_rfl) (fun _ _ _ h => h) rfl (hs.cell .t3) (p_move rfl) ?_
 refine h_pu 8 rfl (ls' := #[true, true, true, true, true, false, false, false, true, false, false, false]) (by kernel_rfl) (fun _ _ _ h => h) rfl (hs.cell .t3) (p_field rfl) ?_
 refine h_one 5 rfl (ls' := #[true, true, true, true, true, true, false, false, true, false, false, false]) (by kernel_rfl) ?_
 have hs := hs.front .t1
 refine k_spec [pt mb 61 2 (mkC l (c + 1))] (c_place mb l (c + 1) (by omega) (by omega)) hs (.cons rfl .nil) rfl ?_
 rintro _ _ _ ⟨p20, rfl, rfl⟩ hs
 refine WL_th ⟨(hs.cell .t3), ?_⟩
 refine h_one 6 rfl (ls' := #[true, true, true, true, true, true, true, false, true, false, false, false]) (by kernel_rfl) ?_
 refine k_quiet (c_wrNodeV _ _ (.inl rfl) _ _ _ _) hs (.cons rfl (.cons rfl (.cons rfl (.cons rfl .nil)))) rfl ?_
 rintro _ _ rfl hs _
 refine WL_th ⟨(hs.cell .t3), ?_⟩
 refine h_two 7 9 rfl rfl (ls' := #[true, true, true, true, true, true, true, true, true, false, false, false]) (ls'' := #[true, true, true, true, true, true, true, false, true, true, false, false]) (by kernel_rfl) ?_ ?_
 ·
  refine k_bs hs (.agg rfl .nil) rfl rfl rfl ?_
  intro b23 _ hs
  have hs := hs.imp .head (pt_row (n := 1) (sz := 19) rfl (maxLen_big rfl))
  have hs := hs.imp .head (row_to (g := recs 19 (fun r : Rose => nc r.n) [.mk ⟨8, 31, anchor, anchor, anchor, false, l, p20, p20, .slice none 0 0⟩ []]) (recs_one (c := fun r : Rose => nc r.n) (sz := 19) (.mk ⟨8, 31, anchor, anchor, anchor, false, l, p20, p20, .slice none 0 0⟩ [])))
  refine WL_th ⟨(hs.cell .t4), ?_⟩
  refine h_one 9 rfl (ls' := #[true, true, true, true, true, true, true, true, true, true, false, false]) (by kernel_rfl) ?_
  refine k_st hs rfl rfl (by repeat (first | exact .head | apply Put.tail)) rfl rfl ?_
  intro _ hs
  refine WL_th ⟨(hs.cell .t4), ?_⟩
  refine h_pu 10 rfl (ls' := #[true, true, true, true, true, true, true, true, true, true, true, false]) (by kernel_rfl) (fun _ _ _ h => h) rfl (hs.cell .t4) (p_field rfl) ?_
  refine h_one 11 rfl (ls' := #[true, true, true, true, true, true, true, true, true, true, true, true]) (by kernel_rfl) ?_
  refine k_st hs rfl rfl (by repeat (first | exact .head | apply Put.tail)) rfl rfl ?_
  intro _ hs
  refine WL_th ⟨(hs.cell .t4), ?_⟩
  refine h_done (by kernel_rfl) ?_
  show W _ _ _ _ _ _
  refine W_forget (Ext.cd 4 rfl (Ext.cd 5 rfl (Ext.nil _))) ?_
  refine W_sr ?_
  have hs := hs.imp .t2 (pt_to (g := nc ⟨17, 14, anchor, ⟨#[42]⟩, ⟨#[42]⟩, false, l, p13, p13, .slice (some ⟨b23, 0, none⟩) 1 1⟩) (by repeat (first | exact below_zero | refine below_succ ?_ rfl)))
  refine k_ldW hs rfl .t2 rfl ?_
  refine k_stW hs rfl rfl .t3 (nc_one rfl) ?_
  intro _ hs
  refine WL_th ?_
  refine W_ret ?_
  refine bl_ret ?_
  refine th_ret ?_
  refine ret_cell (fn := Tryz.f17) (n := 19) rfl rfl hs .t3 ?_
  have hs := hs.holdT (R := fun w => ∀ k ∈ ([.mk ⟨8, 31, anchor, anchor, anchor, false, l, p20, p20, .slice none 0 0⟩ []] : List Rose), RepN w k) (fun w k hk => by rw [List.mem_singleton] at hk; subst hk; exact .mk (.inl ⟨rfl, rfl⟩) (by simp))
  have hs := hs.front .head
  have hs := hs.front .t1
  have hs := MW.St.seal_kids (n := ⟨17, 14, anchor, ⟨#[42]⟩, ⟨#[42]⟩, false, l, p13, p13, .slice (some ⟨b23, 0, none⟩) 1 1⟩) (rs := [.mk ⟨8, 31, anchor, anchor, anchor, false, l, p20, p20, .slice none 0 0⟩ []]) (v := .slice (some ⟨b23, 0, none⟩) 1 1) hs rfl
  have hs := hs.front .t5
  have hs := hs.front .t1
  have hs := hs.front .t2
  have hs := St.cut (G1 := [_, _, _]) hs
  have ec : c + 1 + 1 = c + ((2 : Nat) : Int) := by omega
  rw [ec] at hs
  exact hs.spec ⟨.mk ⟨17, 14, anchor, ⟨#[42]⟩, ⟨#[42]⟩, false, l, p13, p13, .slice (some ⟨b23, 0, none⟩) 1 1⟩ [.mk ⟨8, 31, anchor, anchor, anchor, false, l, p20, p20, .slice none 0 0⟩ []], rfl, .alias rfl (.leaf (by simp)), by simp [Rose.size, rsizes], fun h => by exfalso; have h3 : (4 : Int) = 1 := h.1; omega, rfl⟩
 ·
  refine k_st hs rfl rfl (by repeat (first | exact .head | apply Put.tail)) rfl rfl ?_
  intro _ hs
  refine WL_th ⟨(hs.cell .t3), ?_⟩
  refine h_one 7 rfl (ls' := #[true, true, true, true, true, true, true, true, true, true, false, false]) (by kernel_rfl) ?_
  refine k_bs hs (.agg rfl .nil) rfl rfl rfl ?_
  intro b23 _ hs
  have hs := hs.imp .head (pt_row (n := 1) (sz := 19) rfl (maxLen_big rfl))
  have hs := hs.imp .head (row_to (g := recs 19 (fun r : Rose => nc r.n) [.mk ⟨8, 31, anchor, anchor, anchor, false, l, p20, p20, .slice none 0 0⟩ []]) (recs_one (c := fun r : Rose => nc r.n) (sz := 19) (.mk ⟨8, 31, anchor, anchor, anchor, false, l, p20, p20, .slice none 0 0⟩ [])))
  refine WL_th ⟨(hs.cell .t4), ?_⟩
  refine h_pu 10 rfl (ls' := #[true, true, true, true, true, true, true, true, true, true, true, false]) (by kernel_rfl) (fun _ _ _ h => h) rfl (hs.cell .t4) (p_field rfl) ?_
  refine h_one 11 rfl (ls' := #[true, true, true, true, true, true, true, true, true, true, true, true]) (by kernel_rfl) ?_
  refine k_st hs rfl rfl (by repeat (first | exact .head | apply Put.tail)) rfl rfl ?_
  intro _ hs
  refine WL_th ⟨(hs.cell .t4), ?_⟩
  refine h_done (by kernel_rfl) ?_
  show W _ _ _ _ _ _
  refine W_forget (Ext.cd 4 rfl (Ext.cd 5 rfl (Ext.nil _))) ?_
  refine W_sr ?_
  have hs := hs.imp .t2 (pt_to (g := nc ⟨17, 14, anchor, ⟨#[42]⟩, ⟨#[42]⟩, false, l, p13, p13, .slice (some ⟨b23, 0, none⟩) 1 1⟩) (by repeat (first | exact below_zero | refine below_succ ?_ rfl)))
  refine k_ldW hs rfl .t2 rfl ?_
  refine k_stW hs rfl rfl .t3 (nc_one rfl) ?_
  intro _ hs
  refine WL_th ?_
  refine W_ret ?_
  refine bl_ret ?_
  refine th_ret ?_
  refine ret_cell (fn := Tryz.f17) (n := 19) rfl rfl hs .t3 ?_
  have hs := hs.holdT (R := fun w => ∀ k ∈ ([.mk ⟨8, 31, anchor, anchor, anchor, false, l, p20, p20, .slice none 0 0⟩ []] : List Rose), RepN w k) (fun w k hk => by rw [List.mem_singleton] at hk; subst hk; exact .mk (.inl ⟨rfl, rfl⟩) (by simp))
  have hs := hs.front .head
  have hs := hs.front .t1
  have hs := MW.St.seal_kids (n := ⟨17, 14, anchor, ⟨#[42]⟩, ⟨#[42]⟩, false, l, p13, p13, .slice (some ⟨b23, 0, none⟩) 1 1⟩) (rs := [.mk ⟨8, 31, anchor, anchor, anchor, false, l, p20, p20, .slice none 0 0⟩ []]) (v := .slice (some ⟨b23, 0, none⟩) 1 1) hs rfl
  have hs := hs.front .t5
  have hs := hs.front .t1
  have hs := hs.front .t2
  have hs := St.cut (G1 := [_, _, _]) hs
  have ec : c + 1 + 1 = c + ((2 : Nat) : Int) := by omega
  rw [ec] at hs
  exact hs.spec ⟨.mk ⟨17, 14, anchor, ⟨#[42]⟩, ⟨#[42]⟩, false, l, p13, p13, .slice (some ⟨b23, 0, none⟩) 1 1⟩ [.mk ⟨8, 31, anchor, anchor, anchor, false, l, p20, p20, .slice none 0 0⟩ []], rfl, .alias rfl (.leaf (by simp)), by simp [Rose.size, rsizes], fun h => by exfalso; have h3 : (4 : Int) = 1 := h.1; omega, rfl⟩
theorem c_node_tag {T : ByteArray → Prop} (t : TRec) (ks : List TT) (hk4 : (t.kind == 4) = false) (htag : ne t.tag = true) (hN : NodeOK T (8 * (TT.mk t ks).size - 4) (.mk { t with tag := ⟨#[]⟩ } ks)) : NodeOK T (8 * (TT.mk t ks).size - 3) (.mk t ks) := by
 intro R hR mb l c h1 h2 wI S hsat
 have hs := St.start hsat
 have hlk := one_le_tsize (.mk t ks)
 obtain ⟨kind, value, anchor, tag, style, kv⟩ := t
 refine calls_W (args := [_, _]) Tryz.func17 rfl Tryz.ntmps17 rfl ?_
 refine W_sr ?_
 refine k_box hs rfl rfl ?_
 intro b3 _ hs
 refine k_alloc hs rfl ?_
 intro b4 _ hs
 refine WL_th ?_
 refine W_seq ?_
 refine W_block ?_
 refine W_sr ?_
 refine s_pu (p_field rfl) rfl ?_
 refine k_ld hs rfl .t1 rfl rfl ?_
 refine s_pu (p_eqI rfl rfl) rfl ?_
 refine s_pu (p_assign rfl) rfl ?_
 refine WL_th ?_
 refine W_false (congrArg (fun b => some (Value.bool b)) hk4) ?_
 refine W_sr ?_
 refine s_pu (p_field rfl) rfl ?_
 refine k_ld hs rfl .t1 rfl rfl ?_
 refine s_pu (p_neS rfl rfl) rfl ?_
 refine s_pu (p_assign rfl) rfl ?_
 refine WL_th ?_
 refine W_true (congrArg (fun b => some (Value.bool b)) (show (!(tag.toList == (⟨#[]⟩ : ByteArray).toList)) = true from htag)) ?_
 refine W_join (fun e' w' => ∃ (b6 : Nat) (p34 : Int), Ext e' (upd (upd (upd (upd emp 6 (.pointer (some ⟨b6, 0, none⟩))) 4 (.pointer (some ⟨b4, 0, none⟩))) 3 (.pointer (some ⟨b3, 0, none⟩))) 0 (.pointer (some ⟨mb, 0, none⟩))) ∧ ∃ z, St wI S w' [pt b6 31 19 (nc ⟨19, 15, tag, tag, tag, false, l, p34, p34, .slice none 0 0⟩), pt b4 31 19 z, pt b3 24 6 (tc ⟨kind, value, anchor, tag, style, kv⟩), pt mb 61 2 (mkC l (c + 1)), hold R]) ?_ ?_
 ·
  refine h_start (S := fun w => w.heap[b3]? = some (.cells (mkA 6 (tc ⟨kind, value, anchor, tag, style, kv⟩)) 24 (0, 0))) (ls := #[false, false, false, false, false, false, false]) (n := 7) (by kernel_rfl) (by kernel_rfl) ?_
  have hs := hs.drew
  refine h_pu 0 rfl (ls' := #[true, false, false, false, false, false, false]) (by kernel_rfl) (fun _ _ _ h => h) rfl (hs.cell .t1) (p_field rfl) ?_
  refine h_take 1 rfl (ls' := #[true, true, false, false, false, false, false]) (by kernel_rfl) (fun _ _ _ h => h) rfl (hs.cell .t1) (fun w hw => q_ld rfl hw rfl) ?_
  refine h_pu 2 rfl (ls' := #[true, true, true, false, false, false, false]) (by kernel_rfl) (fun _ _ _ h => h) rfl (hs.cell .t1) (p_move rfl) ?_
  refine h_two 3 5 rfl rfl (ls' := #[true, true, true, true, false, false, false]) (ls'' := #[true, true, true, false, false, true, false]) (by kernel_rfl) ?_ ?_
  ·
   have hs := hs.front .t2
   refine k_spec [pt mb 61 2 (mkC l c)] (c_place mb l c (by omega) (by omega)) hs (.cons rfl .nil) rfl ?_
   rintro _ _ _ ⟨p34, rfl, rfl⟩ hs
   refine WL_th ⟨(hs.cell .t2), ?_⟩
   refine h_two 4 5 rfl rfl (ls' := #[true, true, true, true, true, false, false]) (ls'' := #[true, true, true, true, false, true, false]) (by kernel_rfl) ?_ ?_
   ·
    refine k_quiet (c_wrNodeV _ _ (.inr rfl) _ _ _ _) hs (.cons rfl (.cons rfl (.cons rfl (.cons rfl .nil)))) rfl ?_
    rintro _ _ rfl hs _
    refine WL_th ⟨(hs.cell .t2), ?_⟩
    refine h_one 5 rfl (ls' := #[true, true, true, true, true, true, false]) (by kernel_rfl) ?_
    refine k_alloc hs rfl ?_
    intro b6 _ hs
    refine WL_th ⟨(hs.cell .t3), ?_⟩
    refine h_one 6 rfl (ls' := #[true, true, true, true, true, true, true]) (by kernel_rfl) ?_
    refine k_stW hs rfl rfl (by repeat (first | exact .head | apply Put.tail)) (nc_one rfl) ?_
    intro _ hs
    refine WL_th ⟨(hs.cell .t3), ?_⟩
    refine h_done (by kernel_rfl) ?_
    show ∃ _, _
    have hs := hs.front .t4
    have hs := hs.front .t2
    have hs := hs.front .t4
    have hs := hs.front .t4
    have hs := hs.front .t4
    have hs := St.cut (G1 := [_, _, _, _, _]) hs
    exact ⟨b6, p34, (Ext.cons rfl (Ext.cons rfl (Ext.cons rfl (Ext.cons rfl (Ext.nil _))))), _, hs⟩
   ·
    refine k_alloc hs rfl ?_
    intro b6 _ hs
    refine WL_th ⟨(hs.cell .t3), ?_⟩
    refine h_one 4 rfl (ls' := #[true, true, true, true, true, true, false]) (by kernel_rfl) ?_
    refine k_quiet (c_wrNodeV _ _ (.inr rfl) _ _ _ _) hs (.cons rfl (.cons rfl (.cons rfl (.cons rfl .nil)))) rfl ?_
    rintro _ _ rfl hs _
    refine WL_th ⟨(hs.cell .t3), ?_⟩
    refine h_one 6 rfl (ls' := #[true, true, true, true, true, true, true]) (by kernel_rfl) ?_
    refine k_stW hs rfl rfl (by repeat (first | exact .head | apply Put.tail)) (nc_one rfl) ?_
    intro _ hs
    refine WL_th ⟨(hs.cell .t3), ?_⟩
    refine h_done (by kernel_rfl) ?_
    show ∃ _, _
    have hs := hs.front .t4
    have hs := hs.front .t2
    have hs := hs.front .t4
    have hs := hs.front .t4
    have hs := hs.front .t4
    have hs := St.cut (G1 := [_, _, _, _, _]) hs
    exact ⟨b6, p34, (Ext.cons rfl (Ext.cons rfl (Ext.cons rfl (Ext.cons rfl (Ext.nil _))))), _, hs⟩
  ·
   refine k_alloc hs rfl ?_
   intro b6 _ hs
   refine WL_th ⟨(hs.cell .t2), ?_⟩
   refine h_one 3 rfl (ls' := #[true, true, true, true, false, true, false]) (by kernel_rfl) ?_
   have hs := hs.front .t3
   refine k_spec [pt mb 61 2 (mkC l c)] (c_place mb l c (by omega) (by omega)) hs (.cons rfl .nil) rfl ?_
   rintro _ _ _ ⟨p34, rfl, rfl⟩ hs
   refine WL_th ⟨(hs.cell .t3), ?_⟩
   refine h_one 4 rfl (ls' := #[true, true, true, true, true, true, false]) (by kernel_rfl) ?_
   refine k_quiet (c_wrNodeV _ _ (.inr rfl) _ _ _ _) hs (.cons rfl (.cons rfl (.cons rfl (.cons rfl .nil)))) rfl ?_
   rintro _ _ rfl hs _
   refine WL_th ⟨(hs.cell .t3), ?_⟩
   refine h_one 6 rfl (ls' := #[true, true, true, true, true, true, true]) (by kernel_rfl) ?_
   refine k_stW hs rfl rfl (by repeat (first | exact .head | apply Put.tail)) (nc_one rfl) ?_
   intro _ hs
   refine WL_th ⟨(hs.cell .t3), ?_⟩
   refine h_done (by kernel_rfl) ?_
   show ∃ _, _
   have hs := hs.front .t4
   have hs := hs.front .t1
   have hs := hs.front .t4
   have hs := hs.front .t4
   have hs := hs.front .t4
   have hs := St.cut (G1 := [_, _, _, _, _]) hs
   exact ⟨b6, p34, (Ext.cons rfl (Ext.cons rfl (Ext.cons rfl (Ext.cons rfl (Ext.nil _))))), _, hs⟩
 ·
  rintro e1 w1 ⟨b6, p34, hx, z, hs⟩
  refine W_forget hx ?_
  clear hx
  refine W_sr ?_
  refine s_pu (p_field rfl) rfl ?_
  refine k_st hs rfl rfl .t2 rfl rfl ?_
  intro _ hs
  refine WL_th ?_
  refine W_sr ?_
  refine s_pu (p_move rfl) rfl ?_
  have hs := hs.imp .t2 (pt_to (g := tc ⟨kind, value, anchor, ⟨#[]⟩, style, kv⟩) (by repeat (first | exact below_zero | refine below_succ ?_ rfl)))
  refine k_ldW hs rfl .t2 rfl ?_
  have hs := hs.front .t4
  have hs := hs.front .t4
  refine k_spec [pt mb 61 2 (mkC l (c + 1)), hold R] (hN R (fun w h => RepT.with (hR w h) rfl) mb l (c + 1) (by omega) (by simp only [TT.size] at h2 ⊢; omega)) hs (.cons rfl (.cons rfl .nil)) rfl ?_
  rintro _ _ _ ⟨rk, rfl, hgk, hszk, hkeyk, rfl⟩ hs
  refine k_bs hs (.agg rfl .nil) rfl rfl rfl ?_
  intro b40 _ hs
  have hs := hs.imp .head (pt_row (n := 1) (sz := 19) rfl (maxLen_big rfl))
  have hs := hs.imp .head (row_to (g := recs 19 (fun r : Rose => nc r.n) [rk]) (recs_one (c := fun r : Rose => nc r.n) (sz := 19) rk))
  refine s_pu (p_field rfl) rfl ?_
  refine k_st hs rfl rfl .t4 rfl rfl ?_
  intro _ hs
  refine WL_th ?_
  refine W_sr ?_
  have hs := hs.imp .t4 (pt_to (g := nc ⟨19, 15, tag, tag, tag, false, l, p34, p34, .slice (some ⟨b40, 0, none⟩) 1 1⟩) (by repeat (first | exact below_zero | refine below_succ ?_ rfl)))
  refine k_ldW hs rfl .t4 rfl ?_
  refine k_stW hs rfl rfl .t5 (nc_one rfl) ?_
  intro _ hs
  refine WL_th ?_
  refine W_ret ?_
  refine bl_ret ?_
  refine th_ret ?_
  refine ret_cell (fn := Tryz.f17) (n := 19) rfl rfl hs .t5 ?_
  have hs := hs.front .t2
  have hs := hs.hold_imp (R' := fun w => ∀ r ∈ [rk], RepN w r) (fun w h r hr => by rw [List.mem_singleton] at hr; subst hr; exact h)
  have hs := hs.front .head
  have hs := hs.front .t1
  have hs := MW.St.seal_kids (n := ⟨19, 15, tag, tag, tag, false, l, p34, p34, .slice (some ⟨b40, 0, none⟩) 1 1⟩) (rs := [rk]) (v := .slice (some ⟨b40, 0, none⟩) 1 1) hs rfl
  have hs := hs.front .t2
  have hs := hs.front .t1
  have hs := hs.front .t2
  have hs := St.cut (G1 := [_, _, _]) hs
  have ec : c + 1 + (rk.size : Int) = c + ((Rose.size (.mk ⟨19, 15, tag, tag, tag, false, l, p34, p34, .slice (some ⟨b40, 0, none⟩) 1 1⟩ [rk]) : Nat) : Int) := by simp [Rose.size, rsizes]; omega
  rw [ec] at hs
  refine hs.spec ⟨.mk ⟨19, 15, tag, tag, tag, false, l, p34, p34, .slice (some ⟨b40, 0, none⟩) 1 1⟩ [rk], rfl, .tag rfl hgk, by simp only [Rose.size, rsizes]; omega, fun h => ?_, rfl⟩
  have h3 : tag = ⟨#[]⟩ := h.2.2.1
  subst h3
  exact absurd (htag.symm.trans ne_emp) (by decide)
theorem two_all {p : Rose → Prop} {a b : Rose} (ha : p a) (hb : p b) : ∀ r ∈ [a, b], p r := fun r hr => by
 simp only [List.mem_cons, List.not_mem_nil, or_false] at hr
 rcases hr with rfl | rfl
 ·
  exact ha
 ·
  exact hb
theorem c_node_anchor {T : ByteArray → Prop} (t : TRec) (ks : List TT) (hk4 : (t.kind == 4) = false) (htag : ne t.tag = false) (hanc : ne t.anchor = true) (hN : NodeOK T (8 * (TT.mk t ks).size - 6) (.mk { t with anchor := ⟨#[]⟩ } ks)) : NodeOK T (8 * (TT.mk t ks).size - 4) (.mk t ks) := by
 intro R hR mb l c h1 h2 wI S hsat
 have hs := St.start hsat
 have hlk := one_le_tsize (.mk t ks)
 obtain ⟨kind, value, anchor, tag, style, kv⟩ := t
 refine calls_W (args := [_, _]) Tryz.func17 rfl Tryz.ntmps17 rfl ?_
 refine W_sr ?_
 refine k_box hs rfl rfl ?_
 intro b3 _ hs
 refine k_alloc hs rfl ?_
 intro b4 _ hs
 refine WL_th ?_
 refine W_seq ?_
 refine W_block ?_
 refine W_sr ?_
 refine s_pu (p_field rfl) rfl ?_
 refine k_ld hs rfl .t1 rfl rfl ?_
 refine s_pu (p_eqI rfl rfl) rfl ?_
 refine s_pu (p_assign rfl) rfl ?_
 refine WL_th ?_
 refine W_false (congrArg (fun b => some (Value.bool b)) hk4) ?_
 refine W_sr ?_
 refine s_pu (p_field rfl) rfl ?_
 refine k_ld hs rfl .t1 rfl rfl ?_
 refine s_pu (p_neS rfl rfl) rfl ?_
 refine s_pu (p_assign rfl) rfl ?_
 refine WL_th ?_
 refine W_false (congrArg (fun b => some (Value.bool b)) (show (!(tag.toList == (⟨#[]⟩ : ByteArray).toList)) = false from htag)) ?_
 refine W_sr ?_
 refine s_pu (p_field rfl) rfl ?_
 refine k_ld hs rfl .t1 rfl rfl ?_
 refine s_pu (p_neS rfl rfl) rfl ?_
 refine s_pu (p_assign rfl) rfl ?_
 refine WL_th ?_
 refine W_forget (Ext.cd 0 rfl (Ext.cd 3 rfl (Ext.cd 4 rfl (Ext.cd 43 rfl (Ext.nil _))))) ?_
 refine W_true (congrArg (fun b => some (Value.bool b)) (show (!(anchor.toList == (⟨#[]⟩ : ByteArray).toList)) = true from hanc)) ?_
 refine W_sr ?_
 refine s_pu (p_move rfl) rfl ?_
 have hs := hs.front .t2
 refine k_spec [pt mb 61 2 (mkC l c)] (c_place mb l c (by omega) (by omega)) hs (.cons rfl .nil) rfl ?_
 rintro _ _ _ ⟨p48, rfl, rfl⟩ hs
 refine k_quiet (c_wrNodeE 16 _ (by decide) _ _ _ _) hs (.cons rfl (.cons rfl (.cons rfl (.cons rfl .nil)))) rfl ?_
 rintro _ _ rfl hs _
 refine k_alloc hs rfl ?_
 intro b7 _ hs
 refine k_stW hs rfl rfl (by repeat (first | exact .head | apply Put.tail)) (nc_one rfl) ?_
 intro _ hs
 refine WL_th ?_
 refine W_sr ?_
 refine s_pu (p_field rfl) rfl ?_
 refine k_ld hs rfl .t3 rfl rfl ?_
 refine s_pu (p_field rfl) rfl ?_
 refine k_st hs rfl rfl (by repeat (first | exact .head | apply Put.tail)) rfl rfl ?_
 intro _ hs
 refine WL_th ?_
 refine W_join (fun e' w' => ∃ (b8 : Nat) (p56 : Int), Ext e' (upd (upd (upd (upd (upd emp 8 (.pointer (some ⟨b8, 0, none⟩))) 7 (.pointer (some ⟨b7, 0, none⟩))) 4 (.pointer (some ⟨b4, 0, none⟩))) 3 (.pointer (some ⟨b3, 0, none⟩))) 0 (.pointer (some ⟨mb, 0, none⟩))) ∧ ∃ z, St wI S w' [pt b8 31 19 (nc ⟨8, 31, anchor, anchor, anchor, false, l, p56, p56, .slice none 0 0⟩), pt b7 31 19 (nc ⟨16, 13, anchor, ⟨#[38]⟩, ⟨#[38]⟩, false, l, p48, p48, .slice none 0 0⟩), pt b4 31 19 z, pt b3 24 6 (tc ⟨kind, value, anchor, tag, style, kv⟩), pt mb 61 2 (mkC l (c + 1 + 1)), hold R]) ?_ ?_
 ·
  refine h_start (S := fun w => w.heap[b3]? = some (.cells (mkA 6 (tc ⟨kind, value, anchor, tag, style, kv⟩)) 24 (0, 0))) (ls := #[false, false, false, false, false, false, false]) (n := 7) (by kernel_rfl) (by kernel_rfl) ?_
  have hs := hs.drew
  refine h_pu 0 rfl (ls' := #[true, false, false, false, false, false, false]) (by kernel_rfl) (fun _ _ _ h => h) rfl (hs.cell .t3) (p_field rfl) ?_
  refine h_take 1 rfl (ls' := #[true, true, false, false, false, false, false]) (by kernel_rfl) (fun _ _ _ h => h) rfl (hs.cell .t3) (fun w hw => q_ld rfl hw rfl) ?_
  refine h_pu 2 rfl (ls' := #[true, true, true, false, false, false, false]) (by kernel_rfl) (fun _ _ _ h => h) rfl (hs.cell .t3) (p_move rfl) ?_
  refine h_two 3 5 rfl rfl (ls' := #[true, true, true, true, false, false, false]) (ls'' := #[true, true, true, false, false, true, false]) (by kernel_rfl) ?_ ?_
  ·
   have hs := hs.front .t1
   refine k_spec [pt mb 61 2 (mkC l (c + 1))] (c_place mb l (c + 1) (by omega) (by omega)) hs (.cons rfl .nil) rfl ?_
   rintro _ _ _ ⟨p56, rfl, rfl⟩ hs
   refine WL_th ⟨(hs.cell .t3), ?_⟩
   refine h_two 4 5 rfl rfl (ls' := #[true, true, true, true, true, false, false]) (ls'' := #[true, true, true, true, false, true, false]) (by kernel_rfl) ?_ ?_
   ·
    refine k_quiet (c_wrNodeV _ _ (.inl rfl) _ _ _ _) hs (.cons rfl (.cons rfl (.cons rfl (.cons rfl .nil)))) rfl ?_
    rintro _ _ rfl hs _
    refine WL_th ⟨(hs.cell .t3), ?_⟩
    refine h_one 5 rfl (ls' := #[true, true, true, true, true, true, false]) (by kernel_rfl) ?_
    refine k_alloc hs rfl ?_
    intro b8 _ hs
    refine WL_th ⟨(hs.cell .t4), ?_⟩
    refine h_one 6 rfl (ls' := #[true, true, true, true, true, true, true]) (by kernel_rfl) ?_
    refine k_stW hs rfl rfl (by repeat (first | exact .head | apply Put.tail)) (nc_one rfl) ?_
    intro _ hs
    refine WL_th ⟨(hs.cell .t4), ?_⟩
    refine h_done (by kernel_rfl) ?_
    show ∃ _, _
    have hs := hs.front .t5
    have hs := hs.front .t2
    have hs := hs.front .t5
    have hs := hs.front .t5
    have hs := hs.front .t5
    have hs := hs.front .t5
    have hs := St.cut (G1 := [_, _, _, _, _, _]) hs
    have hs := hs.imp .t1 (pt_to (g := nc ⟨16, 13, anchor, ⟨#[38]⟩, ⟨#[38]⟩, false, l, p48, p48, .slice none 0 0⟩) (by repeat (first | exact below_zero | refine below_succ ?_ rfl)))
    exact ⟨b8, p56, (Ext.cons rfl (Ext.cons rfl (Ext.cons rfl (Ext.cons rfl (Ext.cons rfl (Ext.nil _)))))), _, hs⟩
   ·
    refine k_alloc hs rfl ?_
    intro b8 _ hs
    refine WL_th ⟨(hs.cell .t4), ?_⟩
    refine h_one 4 rfl (ls' := #[true, true, true, true, true, true, false]) (by kernel_rfl) ?_
    refine k_quiet (c_wrNodeV _ _ (.inl rfl) _ _ _ _) hs (.cons rfl (.cons rfl (.cons rfl (.cons rfl .nil)))) rfl ?_
    rintro _ _ rfl hs _
    refine WL_th ⟨(hs.cell .t4), ?_⟩
    refine h_one 6 rfl (ls' := #[true, true, true, true, true, true, true]) (by kernel_rfl) ?_
    refine k_stW hs rfl rfl (by repeat (first | exact .head | apply Put.tail)) (nc_one rfl) ?_
    intro _ hs
    refine WL_th ⟨(hs.cell .t4), ?_⟩
    refine h_done (by kernel_rfl) ?_
    show ∃ _, _
    have hs := hs.front .t5
    have hs := hs.front .t2
    have hs := hs.front .t5
    have hs := hs.front .t5
    have hs := hs.front .t5
    have hs := hs.front .t5
    have hs := St.cut (G1 := [_, _, _, _, _, _]) hs
    have hs := hs.imp .t1 (pt_to (g := nc ⟨16, 13, anchor, ⟨#[38]⟩, ⟨#[38]⟩, false, l, p48, p48, .slice none 0 0⟩) (by repeat (first | exact below_zero | refine below_succ ?_ rfl)))
    exact ⟨b8, p56, (Ext.cons rfl (Ext.cons rfl (Ext.cons rfl (Ext.cons rfl (Ext.cons rfl (Ext.nil _)))))), _, hs⟩
  ·
   refine k_alloc hs rfl ?_
   intro b8 _ hs
   refine WL_th ⟨(hs.cell .t4), ?_⟩
   refine h_one 3 rfl (ls' := #[true, true, true, true, false, true, false]) (by kernel_rfl) ?_
   have hs := hs.front .t2
   refine k_spec [pt mb 61 2 (mkC l (c + 1))] (c_place mb l (c + 1) (by omega) (by omega)) hs (.cons rfl .nil) rfl ?_
   rintro _ _ _ ⟨p56, rfl, rfl⟩ hs
   refine WL_th ⟨(hs.cell .t4), ?_⟩
   refine h_one 4 rfl (ls' := #[true, true, true, true, true, true, false]) (by kernel_rfl) ?_
   refine k_quiet (c_wrNodeV _ _ (.inl rfl) _ _ _ _) hs (.cons rfl (.cons rfl (.cons rfl (.cons rfl .nil)))) rfl ?_
   rintro _ _ rfl hs _
   refine WL_th ⟨(hs.cell .t4), ?_⟩
   refine h_one 6 rfl (ls' := #[true, true, true, true, true, true, true]) (by kernel_rfl) ?_
   refine k_stW hs rfl rfl (by repeat (first | exact .head | apply Put.tail)) (nc_one rfl) ?_
   intro _ hs
   refine WL_th ⟨(hs.cell .t4), ?_⟩
   refine h_done (by kernel_rfl) ?_
   show ∃ _, _
   have hs := hs.front .t5
   have hs := hs.front .t1
   have hs := hs.front .t5
   have hs := hs.front .t5
   have hs := hs.front .t5
   have hs := hs.front .t5
   have hs := St.cut (G1 := [_, _, _, _, _, _]) hs
   have hs := hs.imp .t1 (pt_to (g := nc ⟨16, 13, anchor, ⟨#[38]⟩, ⟨#[38]⟩, false, l, p48, p48, .slice none 0 0⟩) (by repeat (first | exact below_zero | refine below_succ ?_ rfl)))
   exact ⟨b8, p56, (Ext.cons rfl (Ext.cons rfl (Ext.cons rfl (Ext.cons rfl (Ext.cons rfl (Ext.nil _)))))), _, hs⟩
 ·
  rintro e1 w1 ⟨b8, p56, hx, z, hs⟩
  refine W_forget hx ?_
  clear hx
  refine W_sr ?_
  refine s_pu (p_field rfl) rfl ?_
  refine k_st hs rfl rfl .t3 rfl rfl ?_
  intro _ hs
  have hs := hs.imp .t3 (pt_to (g := tc ⟨kind, value, ⟨#[]⟩, tag, style, kv⟩) (by repeat (first | exact below_zero | refine below_succ ?_ rfl)))
  refine WL_th ?_
  refine W_seq ?_
  refine h_start (S := fun w => w.heap[b8]? = some (.cells (mkA 19 (nc ⟨8, 31, anchor, anchor, anchor, false, l, p56, p56, .slice none 0 0⟩)) 31 (0, 0)) ∧ w.heap[b3]? = some (.cells (mkA 6 (tc ⟨kind, value, ⟨#[]⟩, tag, style, kv⟩)) 24 (0, 0))) (ls := #[false, false, false, false, false, false, false]) (n := 7) (by kernel_rfl) (by kernel_rfl) ?_
  have hs := hs.drew
  refine h_take 0 rfl (ls' := #[true, false, false, false, false, false, false]) (by kernel_rfl) (fun _ _ _ h => h) rfl ⟨hs.cell .head, hs.cell .t3⟩ (fun w hw => q_ldW rfl hw.1) ?_
  refine h_pu 1 rfl (ls' := #[true, true, false, false, false, false, false]) (by kernel_rfl) (fun _ _ _ h => h) rfl ⟨hs.cell .head, hs.cell .t3⟩ (p_move rfl) ?_
  refine h_take 2 rfl (ls' := #[true, true, true, false, false, false, false]) (by kernel_rfl) (fun _ _ _ h => h) rfl ⟨hs.cell .head, hs.cell .t3⟩ (fun w hw => q_ldW rfl hw.2) ?_
  refine h_one 3 rfl (ls' := #[true, true, true, true, false, false, false]) (by kernel_rfl) ?_
  have hs := hs.front .t5
  have hs := hs.front .t5
  refine k_spec [pt mb 61 2 (mkC l (c + 1 + 1)), hold R] (hN R (fun w h => RepT.with (hR w h) rfl) mb l (c + 1 + 1) (by omega) (by simp only [TT.size] at h2 ⊢; omega)) hs (.cons rfl (.cons rfl .nil)) rfl ?_
  rintro _ _ _ ⟨rk, rfl, hgk, hszk, hkeyk, rfl⟩ hs
  refine WL_th ⟨⟨hs.cell .t3, hs.cell .t6⟩, ?_⟩
  refine h_one 4 rfl (ls' := #[true, true, true, true, true, false, false]) (by kernel_rfl) ?_
  refine k_bs hs (.agg rfl (.agg rfl .nil)) rfl rfl rfl ?_
  intro b63 _ hs
  have hs := hs.imp .head (pt_row (n := 2) (sz := 19) rfl (maxLen_big rfl))
  have hs := hs.imp .head (row_to (g := recs 19 (fun r : Rose => nc r.n) [(.mk ⟨8, 31, anchor, anchor, anchor, false, l, p56, p56, .slice none 0 0⟩ []), rk]) (recs_two (.mk ⟨8, 31, anchor, anchor, anchor, false, l, p56, p56, .slice none 0 0⟩ []) rk))
  refine WL_th ⟨⟨hs.cell .t4, hs.cell .t7⟩, ?_⟩
  refine h_pu 5 rfl (ls' := #[true, true, true, true, true, true, false]) (by kernel_rfl) (fun _ _ _ h => h) rfl ⟨hs.cell .t4, hs.cell .t7⟩ (p_field rfl) ?_
  refine h_one 6 rfl (ls' := #[true, true, true, true, true, true, true]) (by kernel_rfl) ?_
  refine k_st hs rfl rfl .t5 rfl rfl ?_
  intro _ hs
  refine WL_th ⟨⟨hs.cell .t4, hs.cell .t7⟩, ?_⟩
  refine h_done (by kernel_rfl) ?_
  show W _ _ _ _ _ _
  refine W_sr ?_
  have hs := hs.imp .t5 (pt_to (g := nc ⟨16, 13, anchor, ⟨#[38]⟩, ⟨#[38]⟩, false, l, p48, p48, .slice (some ⟨b63, 0, none⟩) 2 2⟩) (by repeat (first | exact below_zero | refine below_succ ?_ rfl)))
  refine k_ldW hs rfl .t5 rfl ?_
  refine k_stW hs rfl rfl .t6 (nc_one rfl) ?_
  intro _ hs
  refine WL_th ?_
  refine W_forget (Ext.cd 4 rfl (Ext.nil _)) ?_
  refine W_ret ?_
  refine bl_ret ?_
  refine th_ret ?_
  refine ret_cell (fn := Tryz.f17) (n := 19) rfl rfl hs .t6 ?_
  have hs := hs.front .t2
  have hs := hs.hold_imp (R' := fun w => ∀ r ∈ ([(.mk ⟨8, 31, anchor, anchor, anchor, false, l, p56, p56, .slice none 0 0⟩ []), rk] : List Rose), RepN w r) (fun w h => two_all (.mk (.inl ⟨rfl, rfl⟩) (by simp)) h)
  have hs := hs.front .head
  have hs := hs.front .t1
  have hs := MW.St.seal_kids (n := ⟨16, 13, anchor, ⟨#[38]⟩, ⟨#[38]⟩, false, l, p48, p48, .slice (some ⟨b63, 0, none⟩) 2 2⟩) (rs := [(.mk ⟨8, 31, anchor, anchor, anchor, false, l, p56, p56, .slice none 0 0⟩ []), rk]) (v := .slice (some ⟨b63, 0, none⟩) 2 2) hs rfl
  have hs := hs.front .t2
  have hs := hs.front .t1
  have hs := hs.front .t2
  have hs := St.cut (G1 := [_, _, _]) hs
  have ec : c + 1 + 1 + (rk.size : Int) = c + ((Rose.size (.mk ⟨16, 13, anchor, ⟨#[38]⟩, ⟨#[38]⟩, false, l, p48, p48, .slice (some ⟨b63, 0, none⟩) 2 2⟩ [(.mk ⟨8, 31, anchor, anchor, anchor, false, l, p56, p56, .slice none 0 0⟩ []), rk]) : Nat) : Int) := by simp [Rose.size, rsizes]; omega
  rw [ec] at hs
  refine hs.spec ⟨.mk ⟨16, 13, anchor, ⟨#[38]⟩, ⟨#[38]⟩, false, l, p48, p48, .slice (some ⟨b63, 0, none⟩) 2 2⟩ [(.mk ⟨8, 31, anchor, anchor, anchor, false, l, p56, p56, .slice none 0 0⟩ []), rk], rfl, .anchor rfl (.leaf (by simp)) hgk, by simp only [Rose.size, rsizes]; omega, fun h => ?_, rfl⟩
  have h3 : anchor = ⟨#[]⟩ := h.2.1
  subst h3
  exact absurd (hanc.symm.trans ne_emp) (by decide)
end Go.Proofs.YtmalghopogngoaaGreatDoor
set_option linter.unusedVariables false
set_option linter.unusedSimpArgs false
set_option maxRecDepth 4000
namespace Go.Proofs.YtmalghopogngoaaGreatDoor
open Go Go.RowKit MW
theorem c_node_scalar {T : ByteArray → Prop} (hKn : KnownOK T) (hSg : SignedOK T) (t : TRec) (ks : List TT) (hk4 : (t.kind == 4) = false) (htag : ne t.tag = false) (hanc : ne t.anchor = false) (hk1 : (t.kind == 1) = true) (hvs : t.value.size ≤ 1000) : NodeOK T (8 * (TT.mk t ks).size - 6) (.mk t ks) := by
 intro R hR mb l c h1 h2 wI S hsat
 have hs := St.start hsat
 have hlk := one_le_tsize (.mk t ks)
 refine calls_W (args := [_, _]) Tryz.func17 rfl Tryz.ntmps17 rfl ?_
 refine W_sr ?_
 refine k_box hs rfl rfl ?_
 intro b3 _ hs
 refine k_alloc hs rfl ?_
 intro b4 _ hs
 refine WL_th ?_
 refine W_seq ?_
 refine W_block ?_
 refine W_sr ?_
 refine s_pu (p_field rfl) rfl ?_
 refine k_ld hs rfl .t1 rfl rfl ?_
 refine s_pu (p_eqI rfl rfl) rfl ?_
 refine s_pu (p_assign rfl) rfl ?_
 refine WL_th ?_
 refine W_false (congrArg (fun b => some (Value.bool b)) hk4) ?_
 refine W_sr ?_
 refine s_pu (p_field rfl) rfl ?_
 refine k_ld hs rfl .t1 rfl rfl ?_
 refine s_pu (p_neS rfl rfl) rfl ?_
 refine s_pu (p_assign rfl) rfl ?_
 refine WL_th ?_
 refine W_false (congrArg (fun b => some (Value.bool b)) (show (!(t.tag.toList == (⟨#[]⟩ : ByteArray).toList)) = false from htag)) ?_
 refine W_sr ?_
 refine s_pu (p_field rfl) rfl ?_
 refine k_ld hs rfl .t1 rfl rfl ?_
 refine s_pu (p_neS rfl rfl) rfl ?_
 refine s_pu (p_assign rfl) rfl ?_
 refine WL_th ?_
 refine W_forget (Ext.cd 0 rfl (Ext.cd 3 rfl (Ext.cd 4 rfl (Ext.cd 43 rfl (Ext.nil _))))) ?_
 refine W_false (congrArg (fun b => some (Value.bool b)) (show (!(t.anchor.toList == (⟨#[]⟩ : ByteArray).toList)) = false from hanc)) ?_
 refine W_sr ?_
 refine s_pu (p_field rfl) rfl ?_
 refine k_ld hs rfl .t1 rfl rfl ?_
 refine s_pu (p_eqI rfl rfl) rfl ?_
 refine s_pu (p_assign rfl) rfl ?_
 refine WL_th ?_
 refine W_true (congrArg (fun b => some (Value.bool b)) hk1) ?_
 refine W_sr ?_
 refine s_pu (p_move rfl) rfl ?_
 refine k_ldW hs rfl .t1 rfl ?_
 have hs := hs.front .t2
 refine k_spec [pt mb 61 2 (mkC l c)] (c_scalar hKn hSg mb l c h1 (by omega) t hvs) hs (.cons rfl (.cons rfl .nil)) rfl ?_
 rintro _ _ _ ⟨r, rfl, hg, hsz, hkey, rfl⟩ hs
 refine k_stW hs rfl rfl .t2 (nc_one (hs.now (R := fun w => RepN w r) .t1).one) ?_
 intro _ hs
 refine WL_th ?_
 refine W_ret ?_
 refine bl_ret ?_
 refine th_ret ?_
 refine ret_cell (fn := Tryz.f17) (n := 19) rfl rfl hs .t2 ?_
 have hs := hs.front .t4
 have hs := hs.front .t2
 have hs := hs.front .t2
 have hs := St.cut (G1 := [_, _, _]) hs
 exact hs.spec ⟨r, rfl, hg, by omega, fun h => hkey h.2.2.2, rfl⟩
theorem c_node_coll {T : ByteArray → Prop} (t : TRec) (ks : List TT) (hk4 : (t.kind == 4) = false) (htag : ne t.tag = false) (hanc : ne t.anchor = false) (hk1 : (t.kind == 1) = false) (hC : ∀ (R : World → Prop), (∀ w, R w → RepT w (.mk t ks)) → ∀ (mb : Nat) (l c : Int), 1 ≤ c → c + ((8 * (TT.mk t ks).size - 6 : Nat) : Int) ≤ 900000000 → MW.Spec Tryz.prog 33 [.pointer (some ⟨mb, 0, none⟩), .agg (mkA 6 (tc t))].toArray [pt mb 61 2 (mkC l c), hold R] (MadeR T [hold R] mb l c (8 * (TT.mk t ks).size - 6) (IsKey t))) : NodeOK T (8 * (TT.mk t ks).size - 6) (.mk t ks) := by
 intro R hR mb l c h1 h2 wI S hsat
 have hs := St.start hsat
 have hlk := one_le_tsize (.mk t ks)
 refine calls_W (args := [_, _]) Tryz.func17 rfl Tryz.ntmps17 rfl ?_
 refine W_sr ?_
 refine k_box hs rfl rfl ?_
 intro b3 _ hs
 refine k_alloc hs rfl ?_
 intro b4 _ hs
 refine WL_th ?_
 refine W_seq ?_
 refine W_block ?_
 refine W_sr ?_
 refine s_pu (p_field rfl) rfl ?_
 refine k_ld hs rfl .t1 rfl rfl ?_
 refine s_pu (p_eqI rfl rfl) rfl ?_
 refine s_pu (p_assign rfl) rfl ?_
 refine WL_th ?_
 refine W_false (congrArg (fun b => some (Value.bool b)) hk4) ?_
 refine W_sr ?_
 refine s_pu (p_field rfl) rfl ?_
 refine k_ld hs rfl .t1 rfl rfl ?_
 refine s_pu (p_neS rfl rfl) rfl ?_
 refine s_pu (p_assign rfl) rfl ?_
 refine WL_th ?_
 refine W_false (congrArg (fun b => some (Value.bool b)) (show (!(t.tag.toList == (⟨#[]⟩ : ByteArray).toList)) = false from htag)) ?_
 refine W_sr ?_
 refine s_pu (p_field rfl) rfl ?_
 refine k_ld hs rfl .t1 rfl rfl ?_
 refine s_pu (p_neS rfl rfl) rfl ?_
 refine s_pu (p_assign rfl) rfl ?_
 refine WL_th ?_
 refine W_forget (Ext.cd 0 rfl (Ext.cd 3 rfl (Ext.cd 4 rfl (Ext.cd 43 rfl (Ext.nil _))))) ?_
 refine W_false (congrArg (fun b => some (Value.bool b)) (show (!(t.anchor.toList == (⟨#[]⟩ : ByteArray).toList)) = false from hanc)) ?_
 refine W_sr ?_
 refine s_pu (p_field rfl) rfl ?_
 refine k_ld hs rfl .t1 rfl rfl ?_
 refine s_pu (p_eqI rfl rfl) rfl ?_
 refine s_pu (p_assign rfl) rfl ?_
 refine WL_th ?_
 refine W_false (congrArg (fun b => some (Value.bool b)) hk1) ?_
 refine W_skip ?_
 show W _ _ _ _ _ _
 refine W_sr ?_
 refine s_pu (p_move rfl) rfl ?_
 refine k_ldW hs rfl .t1 rfl ?_
 have hs := hs.front .t3
 have hs := hs.front .t3
 refine k_spec [pt mb 61 2 (mkC l c), hold R] (hC R hR mb l c h1 h2) hs (.cons rfl (.cons rfl .nil)) rfl ?_
 rintro _ _ _ ⟨r, rfl, hg, hsz, hkey, rfl⟩ hs
 refine k_stW hs rfl rfl .t3 (nc_one (hs.now (R := fun w => RepN w r) .t1).one) ?_
 intro _ hs
 refine WL_th ?_
 refine W_ret ?_
 refine ret_cell (fn := Tryz.f17) (n := 19) rfl rfl hs .t3 ?_
 have hs := hs.front .t2
 have hs := hs.front .t2
 have hs := hs.front .t2
 have hs := St.cut (G1 := [_, _, _]) hs
 exact hs.spec ⟨r, rfl, hg, hsz, hkey, rfl⟩
theorem c_node {T : ByteArray → Prop} (hKn : KnownOK T) (hSg : SignedOK T) : ∀ (n : Nat) (t : TT), t.size ≤ n → FitT t → NodeOK T (8 * t.size - 3) t := by
 intro n
 induction n with
 | zero => intro t h; have := one_le_tsize t; omega
 | succ n ih =>
  intro t hsz hf
  obtain ⟨t, ks⟩ := t
  have hlk := one_le_tsize (.mk t ks)
  simp only [TT.size] at hsz
  have hk : ∀ (p : ∀ k ∈ ks, FitT k), ∀ k ∈ ks, NodeOK T (8 * k.size - 3) k := fun p k hk => ih k (by have := tmem_size hk; omega) (p k hk)
  by_cases h4 : (t.kind == 4) = true
  ·
   exact (c_node_alias t ks (eq_of_beq h4)).mono (by omega)
  ·
   have h4' : (t.kind == 4) = false := by simpa using h4
   have base : ∀ t' : TRec, t'.kind = t.kind → t'.value = t.value → ne t'.tag = false → ne t'.anchor = false → NodeOK T (8 * (TT.mk t' ks).size - 6) (.mk t' ks) := by
    intro t' hkk hvv htg han
    have h4k : (t'.kind == 4) = false := by rw [hkk]; exact h4'
    cases hf with
    | scalar h1 hv => exact c_node_scalar hKn hSg t' [] h4k htg han (by rw [hkk, h1]; rfl) (by rw [hvv]; exact hv)
    | alias h1 => rw [h1] at h4'; cases h4'
    | list h1 p => exact c_node_coll t' ks h4k htg han (by rw [hkk, h1]; rfl) (fun R hR mb l c a b => c_list t' ks (by rw [hkk, h1]) (hk p) R hR mb l c a b)
    | pairs h1 p q => exact c_node_coll t' ks h4k htg han (by rw [hkk, h1]; rfl) (fun R hR mb l c a b => c_mpairs t' ks (by rw [hkk, h1]) q (hk p) R hR mb l c a b)
   have anc : ∀ t' : TRec, t'.kind = t.kind → t'.value = t.value → ne t'.tag = false → NodeOK T (8 * (TT.mk t' ks).size - 4) (.mk t' ks) := by
    intro t' hkk hvv htg
    by_cases ha : ne t'.anchor = true
    ·
     exact c_node_anchor t' ks (by rw [hkk]; exact h4') htg ha (base { t' with anchor := ⟨#[]⟩ } hkk hvv htg ne_emp)
    ·
     exact (base t' hkk hvv htg (by simpa using ha)).mono (by omega)
   by_cases ht : ne t.tag = true
   ·
    exact c_node_tag t ks h4' ht (anc { t with tag := ⟨#[]⟩ } rfl rfl ne_emp)
   ·
    exact (anc t rfl rfl (by simpa using ht)).mono (by omega)
theorem c_NodeOf {T : ByteArray → Prop} (hKn : KnownOK T) (hSg : SignedOK T) (t : TT) (hf : FitT t) (l c : Int) (h1 : 1 ≤ c) (h2 : c + ((8 * t.size : Nat) : Int) ≤ 900000000) (R : World → Prop) (hR : ∀ w, R w → RepT w t) :
  MW.Spec Tryz.prog 9 [.agg (mkA 6 (tc t.t)), .int .i64 l, .int .i64 c].toArray [hold R] fun v G => ∃ r : Rose, v = .agg (mkA 19 (nc r.n)) ∧ Good T r ∧ r.size ≤ 8 * t.size - 3 ∧ G = [hold (fun w => RepN w r), hold R] := by
 intro wI S hsat
 have hs := St.start hsat
 refine calls_W (args := [_, _, _]) Tryz.func9 rfl Tryz.ntmps9 rfl ?_
 refine W_sr ?_
 refine k_box hs rfl rfl ?_
 intro b3 _ hs
 refine k_alloc hs rfl ?_
 intro b6 _ hs
 refine WL_th ?_
 refine W_sr ?_
 refine s_pu (p_move rfl) rfl ?_
 refine s_pu (p_move rfl) rfl ?_
 refine s_pu (p_st (.one rfl rfl rfl (.one rfl rfl rfl .nil))) rfl ?_
 refine k_box hs rfl rfl ?_
 intro b11 _ hs
 refine s_pu (p_assign rfl) rfl ?_
 refine WL_th ?_
 refine W_sr ?_
 refine s_pu (p_move rfl) rfl ?_
 refine k_ldW hs rfl .t2 rfl ?_
 have hs := hs.imp .head (pt_to (g := mkC l c) (by repeat (first | exact below_zero | refine below_succ ?_ rfl)))
 have hs := hs.front .t3
 have hs := hs.front .t1
 refine k_spec [pt b11 61 2 (mkC l c), hold R] (c_node hKn hSg _ t (Nat.le_refl _) hf R hR b11 l c h1 (by omega)) hs (.cons rfl (.cons rfl .nil)) rfl ?_
 rintro _ _ _ ⟨r, rfl, hg, hsz, hkey, rfl⟩ hs
 refine k_stW hs rfl rfl .t3 (nc_one (hs.now (R := fun w => RepN w r) .t1).one) ?_
 intro _ hs
 refine WL_th ?_
 refine W_forget (Ext.cd 6 rfl (Ext.nil _)) ?_
 refine W_ret ?_
 refine ret_cell (fn := Tryz.f9) (n := 19) rfl rfl hs .t3 ?_
 have hs := hs.front .t2
 have hs := hs.front .t2
 have hs := St.cut (G1 := [_, _]) hs
 exact hs.spec ⟨r, rfl, hg, hsz, rfl⟩
end Go.Proofs.YtmalghopogngoaaGreatDoor
