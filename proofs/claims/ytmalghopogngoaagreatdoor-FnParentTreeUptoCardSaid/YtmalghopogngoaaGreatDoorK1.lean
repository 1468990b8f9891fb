/- A part of the proof that the parent of a node below the root is the node right above it (laws.FnParentTree), for all inputs of bulk at most 1048576 and the listed variables as the text lays them: part 1 of 16. -/
import Derived.WalkKit
import Derived.OrdersHeld
import Derived.Laws.CopyRow
import Derived.Laws.Cells
import Derived.LaidEql
import Derived.Laws.AppendOwn
import Derived.Laws.Externs
import Derived.Recover
namespace Go.Proofs.YtmalghopogngoaaGreatDoor.MW
open Go Go.RowKit
abbrev Env := Nat → Option Value
def emp : Env := fun _ => none
def upd (e : Env) (d : Nat) (v : Value) : Env := fun t => bif Nat.beq t d then some v else e t
def Ext (e e' : Env) : Prop := ∀ t v, e' t = some v → e t = some v
theorem Ext.refl (e : Env) : Ext e e := fun _ _ h => h
theorem Ext.nil (e : Env) : Ext e emp := fun _ _ h => by cases h
theorem Ext.cons {e e' : Env} {d : Nat} {v : Value} (h : e d = some v) (h' : Ext e e') : Ext e (upd e' d v) := fun t u hu => by
 unfold upd at hu
 cases hb : Nat.beq t d with
 | true =>
  rw [hb] at hu
  obtain rfl := Nat.eq_of_beq_eq_true hb
  exact h.trans hu
 | false => rw [hb] at hu; exact h' t u hu
def evo (e : Env) : Operand → Option Value
 | .tmp t => e t
 | .const v => some v
 | .global g => some (.pointer (some ⟨g, 0, none⟩))
 | .func f => some (.func (.func f) #[] #[])
structure Sh (N : Nat) (e : Env) (a : Act) : Prop where
 size : a.tmps.size = N
 defers : a.defers = []
 get : ∀ t v, e t = some v → a.tmps.getD t undef = v
theorem Sh.eval {N : Nat} {e : Env} {a : Act} (h : Sh N e a) {x : Operand} {v : Value} (hx : evo e x = some v) : a.eval x = v := by
 cases x with
 | tmp t => exact h.get t v hx
 | const u => exact Option.some.inj hx
 | global g => exact Option.some.inj hx
 | func f => exact Option.some.inj hx
theorem Sh.put {N : Nat} {e : Env} {a : Act} (h : Sh N e a) {d : Nat} (hd : Nat.blt d N = true) (v : Value) : Sh N (upd e d v) (a.put (some d) v) := by
 have hd' : d < a.tmps.size := by rw [h.size]; exact Nat.le_of_ble_eq_true hd
 refine ⟨by simp [Act.put, h.size], h.defers, fun t u hu => ?_⟩
 unfold upd at hu
 cases hb : Nat.beq t d with
 | true =>
  rw [hb] at hu
  obtain rfl := Nat.eq_of_beq_eq_true hb
  obtain rfl := Option.some.inj hu
  simp [Act.put, hd']
 | false =>
  rw [hb] at hu
  have hne : d ≠ t := fun e => by subst e; simp at hb
  have := h.get t u hu
  simp only [Act.put, Array.getD_eq_getD_getElem?, Array.getElem?_setIfInBounds_ne hne] at this ⊢
  exact this
theorem Sh.ext {N : Nat} {e e' : Env} {a : Act} (h : Sh N e a) (hx : Ext e e') : Sh N e' a := ⟨h.size, h.defers, fun t v ht => h.get t v (hx t v ht)⟩
/-- The rule for loops, with a letter of its own for what a round's head is. -/
theorem wp_loop_x {P : Program} {Q : Exit → Act → World → Prop} {a : Act} {w : World} {α : Type} {c : Code} (J : α → Act → World → Prop) (m : α → Nat) (x0 : α) (h₀ : J x0 a w)
  (round : ∀ x a w, J x a w → c.wp P (Exit.then (fun a' w' => ∃ x', J x' a' w' ∧ m x' < m x) Q) a w) : (Code.loop c).wp P Q a w := by
 intro b k cs
 have key : ∀ n x a w, m x = n → J x a w →
   ∃ e a' w', Q e a' w' ∧ Arrives P (lone (b.at a (.code c :: .inLoop c :: k)) cs w) b k cs e a' w' := by
  intro n
  induction n using Nat.strongRecOn with
  | _ n ih =>
   intro x a w hn hI
   obtain ⟨e, a₁, w₁, hq, harr⟩ := round x a w hI b (.inLoop c :: k) cs
   cases e with
   | normal =>
    obtain ⟨x', hI₁, hlt⟩ := hq
    obtain ⟨e₂, a₂, w₂, hq₂, harr₂⟩ := ih (m x') (hn ▸ hlt) x' a₁ w₁ rfl hI₁
    exact ⟨e₂, a₂, w₂, hq₂, .of_steps (Steps.trans harr (.one step_inLoop)) harr₂⟩
   | exit id => exact ⟨_, a₁, w₁, hq, .pass (x := .inLoop c) rfl (fun _ _ => .inl (by simp)) harr⟩
   | goto l => exact ⟨_, a₁, w₁, hq, .pass (x := .inLoop c) rfl (fun _ _ => .inl (by simp)) harr⟩
   | ret => exact ⟨_, a₁, w₁, hq, .pass (x := .inLoop c) rfl (fun _ _ => .inl (by simp)) harr⟩
   | panic ch => exact ⟨_, a₁, w₁, hq, .pass (x := .inLoop c) rfl (fun _ _ => .inl (by simp)) harr⟩
   | outgrown => exact ⟨_, a₁, w₁, hq, .pass (x := .inLoop c) rfl (fun _ _ => .inl (by simp)) harr⟩
 obtain ⟨e, a', w', hq, harr⟩ := key _ x0 a w rfl h₀
 exact ⟨e, a', w', hq, .of_steps (.one step_loop) harr⟩
/-! ### code -/
def W (P : Program) (N : Nat) (c : Code) (Q : Exit → Env → World → Prop) (e : Env) (w : World) : Prop :=
 ∀ a, Sh N e a → c.wp P (fun x a' w' => ∃ e', Sh N e' a' ∧ Q x e' w') a w
def Th (K : Env → World → Prop) (Q : Exit → Env → World → Prop) : Exit → Env → World → Prop
 | .normal, e, w => K e w
 | x, e, w => Q x e w
def Bl (id : Nat) (Q : Exit → Env → World → Prop) : Exit → Env → World → Prop
 | .exit i, e, w => bif Nat.beq i id then Q .normal e w else Q (.exit i) e w
 | x, e, w => Q x e w
section
variable {P : Program} {N : Nat} {Q : Exit → Env → World → Prop} {e : Env} {w : World}
theorem W_mono {c : Code} {Q' : Exit → Env → World → Prop} (hq : ∀ x e w, Q x e w → Q' x e w) (h : W P N c Q e w) : W P N c Q' e w :=
 fun a ha => wp_mono (h a ha) fun _ _ _ ⟨e', s, q⟩ => ⟨e', s, hq _ _ _ q⟩
theorem W_forget {c : Code} {e' : Env} (hx : Ext e e') (h : W P N c Q e' w) : W P N c Q e w := fun a ha => h a (ha.ext hx)
theorem W_seq {x y : Code} (h : W P N x (Th (W P N y Q) Q) e w) : W P N (.seq x y) Q e w := fun a ha =>
 wp_seq (wp_mono (h a ha) fun ex a' w' ⟨e', s, q⟩ => by
  cases ex <;> first | exact q a' s | exact ⟨e', s, q⟩)
theorem W_block {id : Nat} {c : Code} (h : W P N c (Bl id Q) e w) : W P N (.block id c) Q e w := fun a ha =>
 wp_block (wp_mono (h a ha) fun ex a' w' ⟨e', s, q⟩ => by
  cases ex with
  | exit i =>
   simp only [Exit.inBlock]
   simp only [Bl] at q
   by_cases hi : i = id
   ·
    subst hi
    rw [if_pos rfl]
    simp at q
    exact ⟨e', s, q⟩
   ·
    rw [if_neg hi]
    have : Nat.beq i id = false := by
     cases hb : Nat.beq i id with
     | true => exact absurd (Nat.eq_of_beq_eq_true hb) hi
     | false => rfl
    rw [this] at q
    exact ⟨e', s, q⟩
  | normal => exact ⟨e', s, q⟩
  | goto l => exact ⟨e', s, q⟩
  | ret => exact ⟨e', s, q⟩
  | panic ch => exact ⟨e', s, q⟩
  | outgrown => exact ⟨e', s, q⟩)
theorem W_skip (h : Q .normal e w) : W P N .skip Q e w := fun _ ha => wp_skip ⟨e, ha, h⟩
theorem W_ret (h : Q .ret e w) : W P N .ret Q e w := fun _ ha => wp_ret ⟨e, ha, h⟩
theorem W_exit {id : Nat} (h : Q (.exit id) e w) : W P N (.exit id) Q e w := fun _ ha => wp_exit ⟨e, ha, h⟩
theorem W_true {c : Operand} {x y : Code} (hc : evo e c = some (.bool true)) (h : W P N x Q e w) : W P N (.cond c x y) Q e w :=
 fun a ha => wp_cond_true (ha.eval hc) (h a ha)
theorem W_false {c : Operand} {x y : Code} (hc : evo e c = some (.bool false)) (h : W P N y Q e w) : W P N (.cond c x y) Q e w :=
 fun a ha => wp_cond_false (ha.eval hc) (h a ha)
theorem W_if {c : Operand} {x y : Code} {b : Bool} (hc : evo e c = some (.bool b)) (ht : b = true → W P N x Q e w) (hf : b = false → W P N y Q e w) :
  W P N (.cond c x y) Q e w := by
 cases b with
 | true => exact W_true hc (ht rfl)
 | false => exact W_false hc (hf rfl)
/-- A loop: 'ef x' is what is known of the frame at its head, 'I x' what holds of the world, 'm x' what every round lowers. -/
theorem W_loop {α : Type} {c : Code} (ef : α → Env) (I : α → World → Prop) (m : α → Nat) (x0 : α) (h0 : Ext e (ef x0)) (hI : I x0 w)
  (round : ∀ x w, I x w → W P N c (Th (fun e' w' => ∃ x', Ext e' (ef x') ∧ I x' w' ∧ m x' < m x) Q) (ef x) w) : W P N (.loop c) Q e w := by
 intro a ha
 refine wp_loop_x (fun x a w => Sh N (ef x) a ∧ I x w) m x0 ⟨ha.ext h0, hI⟩ fun x a w ⟨hs, hi⟩ => ?_
 refine wp_mono (round x w hi a hs) fun ex a' w' ⟨e', s, q⟩ => ?_
 cases ex with
 | normal =>
  obtain ⟨x', hx', hi', hlt⟩ := q
  exact ⟨x', ⟨s.ext hx', hi'⟩, hlt⟩
 | exit i => exact ⟨e', s, q⟩
 | goto l => exact ⟨e', s, q⟩
 | ret => exact ⟨e', s, q⟩
 | panic ch => exact ⟨e', s, q⟩
 | outgrown => exact ⟨e', s, q⟩
end
end Go.Proofs.YtmalghopogngoaaGreatDoor.MW
set_option linter.unusedVariables false
namespace Go.Proofs.YtmalghopogngoaaGreatDoor.MW
open Go Go.RowKit
/-- Of the blocks that were there, only those in F may have changed. -/
structure Keep (F : Nat → Prop) (w w' : World) : Prop where
 os : w'.os = w.os
 tape : w'.tape = w.tape
 output : w'.output = w.output
 size : w.heap.size ≤ w'.heap.size
 block : ∀ b, b < w.heap.size → ¬ F b → w'.heap[b]? = w.heap[b]?
theorem Keep.refl (F : Nat → Prop) (w : World) : Keep F w w := ⟨rfl, rfl, rfl, Nat.le_refl _, fun _ _ _ => rfl⟩
theorem Keep.trans {F F' : Nat → Prop} {a b c : World} (h : Keep F a b) (k : Keep F' b c) (hF : ∀ x, F' x → F x ∨ a.heap.size ≤ x) : Keep F a c :=
 ⟨k.os.trans h.os, k.tape.trans h.tape, k.output.trans h.output, Nat.le_trans h.size k.size, fun x hx hn =>
  (k.block x (Nat.lt_of_lt_of_le hx h.size) (fun hf => (hF x hf).elim hn (fun hle => by omega))).trans (h.block x hx hn)⟩
theorem Keep.mono {F F' : Nat → Prop} {a b : World} (h : Keep F a b) (hF : ∀ x, F x → F' x ∨ a.heap.size ≤ x) : Keep F' a b :=
 ⟨h.os, h.tape, h.output, h.size, fun x hx hn => h.block x hx (fun hf => (hF x hf).elim hn (fun hle => by omega))⟩
theorem Keep.below {w w' : World} (h : Keep (fun _ => False) w w') : Below w.heap.size w w' := ⟨h.os, h.tape, h.output, h.size, fun k hk => h.block k hk id⟩
theorem Keep.of_below {F : Nat → Prop} {w w' : World} (h : Below w.heap.size w w') : Keep F w w' := ⟨h.os, h.tape, h.output, h.size, fun k hk _ => h.block k hk⟩
theorem Keep.drew (F : Nat → Prop) (w : World) : Keep F w w.drew := ⟨rfl, rfl, rfl, Nat.le_refl _, fun _ _ _ => rfl⟩
theorem Keep.alloc (F : Nat → Prop) (w : World) (o : Obj) : Keep F w (w.alloc o) := .of_below ((Below.refl _ _).alloc (Nat.le_refl _) o)
abbrev Foot := Nat → Prop
/-- An assertion on memory: it holds on a footprint of blocks, and hangs on these alone. -/
structure Assn where
 on : World → Foot → Prop
 loc : ∀ w w' S, on w S → (∀ b, S b → w'.heap[b]? = w.heap[b]?) → on w' S
/-- Cells as a function. -/
def mkA (n : Nat) (f : Nat → Value) : Array Value := ((List.range n).map f).toArray
theorem mkA_size (n : Nat) (f : Nat → Value) : (mkA n f).size = n := by simp [mkA]
theorem mkA_get (n : Nat) (f : Nat → Value) (i : Nat) (h : i < n) : (mkA n f)[i]? = some (f i) := by simp [mkA, h]
theorem mkA_ext {n : Nat} {f : Nat → Value} {c : Array Value} (hs : c.size = n) (h : ∀ i, i < n → c[i]? = some (f i)) : c = mkA n f := by
 apply Array.ext_getElem?
 intro i
 by_cases hi : i < n
 ·
  rw [h i hi, mkA_get n f i hi]
 ·
  rw [Array.getElem?_eq_none (by omega), Array.getElem?_eq_none (by rw [mkA_size]; omega)]
theorem mkA_congr {n : Nat} {f g : Nat → Value} (h : ∀ i, i < n → f i = g i) : mkA n f = mkA n g :=
 mkA_ext (mkA_size n f) fun i hi => by rw [mkA_get n f i hi, h i hi]
def updC (f : Nat → Value) (o : Nat) (v : Value) : Nat → Value := fun i => bif Nat.beq i o then v else f i
theorem mkA_set (n : Nat) (f : Nat → Value) (o : Nat) (v : Value) : (mkA n f).setIfInBounds o v = mkA n (updC f o v) := by
 refine mkA_ext (by simp [mkA_size]) fun i hi => ?_
 unfold updC
 by_cases ho : o = i
 ·
  subst ho
  simp [mkA_size, hi]
 ·
  rw [Array.getElem?_setIfInBounds_ne ho, mkA_get n f i hi]
  cases hb : Nat.beq i o with
  | true => exact absurd (Nat.eq_of_beq_eq_true hb).symm ho
  | false => rfl
/-- The cells from o on. -/
def sft (f : Nat → Value) (o : Nat) : Nat → Value := fun i => f (o + i)
/-- The cells with n cells g laid over them from o on. -/
def lay (f : Nat → Value) (o n : Nat) (g : Nat → Value) : Nat → Value := fun i => bif Nat.ble o i && Nat.blt i (o + n) then g (i - o) else f i
/-- A block of n cells of the element type T. -/
def pt (b T n : Nat) (f : Nat → Value) : Assn where
 on w S := (∀ x, S x ↔ x = b) ∧ w.heap[b]? = some (.cells (mkA n f) T (0, 0))
 loc := fun w w' S h hk => ⟨h.1, (hk b ((h.1 b).2 rfl)).trans h.2⟩
/-- Whatever hangs on a footprint. -/
def hold (R : World → Prop) : Assn where
 on w S := ∀ w', (∀ b, S b → w'.heap[b]? = w.heap[b]?) → R w'
 loc := fun w w' S h hk w'' hk' => h w'' fun b hb => (hk' b hb).trans (hk b hb)
theorem hold_now {R : World → Prop} {w : World} {S : Foot} (h : (hold R).on w S) : R w := h w fun _ _ => rfl
inductive Sat (w : World) : List Assn → Foot → Prop where
 | nil {S : Foot} : (∀ b, ¬ S b) → Sat w [] S
 | cons {A : Assn} {G : List Assn} {S S1 S2 : Foot} : A.on w S1 → (∀ b, S1 b → b < w.heap.size) → Sat w G S2 → (∀ b, S1 b → ¬ S2 b) → (∀ b, S b ↔ S1 b ∨ S2 b) → Sat w (A :: G) S
theorem Sat.lt {w : World} {G : List Assn} {S : Foot} (h : Sat w G S) : ∀ b, S b → b < w.heap.size := by
 induction h with
 | nil h0 => exact fun b hb => absurd hb (h0 b)
 | cons _ hl _ _ hS ih => exact fun b hb => ((hS b).1 hb).elim (hl b) (ih b)
theorem Sat.loc {w w' : World} {G : List Assn} {S : Foot} (h : Sat w G S) (hk : ∀ b, S b → w'.heap[b]? = w.heap[b]?) (hs : w.heap.size ≤ w'.heap.size) : Sat w' G S := by
 induction h with
 | nil h0 => exact .nil h0
 | cons ha hl _ hd hS ih =>
  exact .cons (Assn.loc _ _ _ _ ha fun b hb => hk b ((hS b).2 (.inl hb))) (fun b hb => Nat.lt_of_lt_of_le (hl b hb) hs) (ih fun b hb => hk b ((hS b).2 (.inr hb))) hd hS
theorem Sat.congr {w : World} {G : List Assn} {S S' : Foot} (h : Sat w G S) (hS : ∀ b, S' b ↔ S b) : Sat w G S' := by
 cases h with
 | nil h0 => exact .nil fun b hb => h0 b ((hS b).1 hb)
 | cons ha hl hg hd hS1 => exact .cons ha hl hg hd fun b => (hS b).trans (hS1 b)
/-- One assertion of a list, and the others. -/
inductive Pick : List Assn → Assn → List Assn → Prop where
 | head {A : Assn} {G : List Assn} : Pick (A :: G) A G
 | tail {A B : Assn} {G G' : List Assn} : Pick G A G' → Pick (B :: G) A (B :: G')
theorem Sat.pick {w : World} {G G' : List Assn} {A : Assn} {S : Foot} (hp : Pick G A G') (h : Sat w G S) :
  ∃ S1 S2, A.on w S1 ∧ (∀ b, S1 b → b < w.heap.size) ∧ Sat w G' S2 ∧ (∀ b, S1 b → ¬ S2 b) ∧ (∀ b, S b ↔ S1 b ∨ S2 b) := by
 induction hp generalizing S with
 | head => cases h with | cons ha hl hg hd hS => exact ⟨_, _, ha, hl, hg, hd, hS⟩
 | tail _ ih =>
  cases h with
  | cons hb hlb hg hd hS =>
   rename_i SB S2
   obtain ⟨T1, T2, ha, hla, hg', hd', hS'⟩ := ih hg
   refine ⟨T1, fun b => SB b ∨ T2 b, ha, hla, .cons hb hlb hg' (fun b h1 h2 => hd b h1 ((hS' b).2 (.inr h2))) (fun _ => Iff.rfl), ?_, ?_⟩
   ·
    rintro b h1 (h2 | h2)
    ·
     exact hd b h2 ((hS' b).2 (.inl h1))
    ·
     exact hd' b h1 h2
   ·
    intro b
    rw [hS b, hS' b]
    constructor
    ·
     rintro (h | h | h)
     ·
      exact .inr (.inl h)
     ·
      exact .inl h
     ·
      exact .inr (.inr h)
    ·
     rintro (h | h | h)
     ·
      exact .inr (.inl h)
     ·
      exact .inl h
     ·
      exact .inr (.inr h)
/-- The place of one assertion, put anew. -/
inductive Put : List Assn → Assn → Assn → List Assn → Prop where
 | head {A B : Assn} {G : List Assn} : Put (A :: G) A B (B :: G)
 | tail {A B C : Assn} {G G' : List Assn} : Put G A B G' → Put (C :: G) A B (C :: G')
/-- A step in one assertion alone. -/
theorem Sat.put {w w' : World} {G G' : List Assn} {A B : Assn} (hp : Put G A B G') {S : Foot} (h : Sat w G S)
  (hstep : ∀ S1, A.on w S1 → (∀ b, S1 b → b < w.heap.size) → ∃ S1', B.on w' S1' ∧ (∀ b, S1' b → b < w'.heap.size ∧ (S1 b ∨ w.heap.size ≤ b)) ∧ (∀ b, b < w.heap.size → ¬ S1 b → w'.heap[b]? = w.heap[b]?)) (hs : w.heap.size ≤ w'.heap.size) :
  ∃ S', Sat w' G' S' ∧ (∀ b, S' b → S b ∨ w.heap.size ≤ b) ∧ (∀ b, b < w.heap.size → ¬ S b → w'.heap[b]? = w.heap[b]?) := by
 induction hp generalizing S with
 | head =>
  cases h with
  | cons ha hl hg hd hS =>
   rename_i S1 S2
   obtain ⟨S1', hb, hb1, hb2⟩ := hstep _ ha hl
   refine ⟨fun b => S1' b ∨ S2 b, .cons hb (fun b h => (hb1 b h).1) (hg.loc (fun b h => hb2 b (hg.lt b h) (fun h1 => hd b h1 h)) hs) ?_ (fun _ => Iff.rfl), ?_, ?_⟩
   ·
    intro b h1 h2
    rcases (hb1 b h1).2 with h | h
    ·
     exact hd b h h2
    ·
     have := hg.lt b h2; omega
   ·
    rintro b (h | h)
    ·
     exact (hb1 b h).2.imp (fun h => (hS b).2 (.inl h)) id
    ·
     exact .inl ((hS b).2 (.inr h))
   ·
    exact fun b hlt hn => hb2 b hlt (fun h => hn ((hS b).2 (.inl h)))
 | tail _ ih =>
  cases h with
  | cons hc hlc hg hd hS =>
   rename_i SC S2
   obtain ⟨S', hg', h1, h2⟩ := ih hg hstep
   have hkc : ∀ b, SC b → w'.heap[b]? = w.heap[b]? := fun b hb => h2 b (hlc b hb) (hd b hb)
   refine ⟨fun b => SC b ∨ S' b, .cons (Assn.loc _ _ _ _ hc hkc) (fun b hb => Nat.lt_of_lt_of_le (hlc b hb) hs) hg' ?_ (fun _ => Iff.rfl), ?_, ?_⟩
   ·
    intro b hb hb'
    rcases h1 b hb' with h | h
    ·
     exact hd b hb h
    ·
     have := hlc b hb; omega
   ·
    rintro b (h | h)
    ·
     exact .inl ((hS b).2 (.inl h))
    ·
     exact (h1 b h).imp (fun h => (hS b).2 (.inr h)) id
   ·
    exact fun b hlt hn => h2 b hlt (fun h => hn ((hS b).2 (.inr h)))
/-- The state in the midst of a call that began in w0, with F the footprint that it was handed. -/
structure St (w0 : World) (F : Foot) (w : World) (G : List Assn) : Prop where
 keep : Keep F w0 w
 sat : ∃ S, Sat w G S ∧ ∀ b, S b → F b ∨ w0.heap.size ≤ b
section
variable {w0 w w' : World} {F : Foot} {G G' : List Assn}
theorem St.start {S : Foot} (h : Sat w G S) : St w S w G := ⟨.refl _ _, S, h, fun _ => .inl⟩
theorem St.startNone (w : World) : St w (fun _ => False) w [] := ⟨.refl _ _, _, .nil fun _ => id, fun _ => .inl⟩
/-- What nothing of the list stands in the way of: a call that keeps all, a draw. -/
theorem St.over (h : St w0 F w G) (hk : Keep (fun _ => False) w w') : St w0 F w' G := by
 obtain ⟨S, hs, hF⟩ := h.sat
 exact ⟨h.keep.trans hk (fun _ => False.elim), S, hs.loc (fun b hb => hk.block b (hs.lt b hb) id) hk.size, hF⟩
theorem St.drew (h : St w0 F w G) : St w0 F w.drew G := h.over (.drew _ _)
theorem St.put {A B : Assn} (hp : Put G A B G') (h : St w0 F w G) (hos : w'.os = w.os) (htape : w'.tape = w.tape) (hout : w'.output = w.output) (hs : w.heap.size ≤ w'.heap.size)
  (hstep : ∀ S1, A.on w S1 → (∀ b, S1 b → b < w.heap.size) → ∃ S1', B.on w' S1' ∧ (∀ b, S1' b → b < w'.heap.size ∧ (S1 b ∨ w.heap.size ≤ b)) ∧ (∀ b, b < w.heap.size → ¬ S1 b → w'.heap[b]? = w.heap[b]?)) :
  St w0 F w' G' := by
 obtain ⟨S, hsat, hF⟩ := h.sat
 obtain ⟨S', h1, h2, h3⟩ := hsat.put hp hstep hs
 refine ⟨h.keep.trans (F' := S) ⟨hos, htape, hout, hs, h3⟩ hF, S', h1, fun b hb => ?_⟩
 rcases h2 b hb with h' | h'
 ·
  exact hF b h'
 ·
  exact .inr (Nat.le_trans h.keep.size h')
/-- A new block. -/
theorem St.alloc (h : St w0 F w G) (T n : Nat) (f : Nat → Value) : St w0 F (w.alloc (.cells (mkA n f) T)) (pt w.heap.size T n f :: G) := by
 obtain ⟨S, hs, hF⟩ := h.sat
 refine ⟨h.keep.trans (Keep.alloc (fun _ => False) w _) (fun _ => False.elim), fun b => b = w.heap.size ∨ S b, .cons (S1 := fun b => b = w.heap.size) (S2 := S) ⟨fun _ => Iff.rfl, heap_alloc_new w _⟩ ?_ ?_ ?_ (fun _ => Iff.rfl), ?_⟩
 ·
  rintro b rfl; simp
 ·
  exact hs.loc (fun b hb => Below.heap_alloc _ _ _ (hs.lt b hb)) (by simp)
 ·
  rintro b rfl hb; exact absurd (hs.lt _ hb) (by omega)
 ·
  rintro b (rfl | hb)
  ·
   exact .inr h.keep.size
  ·
   exact hF b hb
/-- New memory that came with a call. -/
theorem St.add (h : St w0 F w G) {G1 : List Assn} {S1 : Foot} (hk : Keep (fun _ => False) w w') (h1 : Sat w' G1 S1) (hnew : ∀ b, S1 b → w.heap.size ≤ b) : St w0 F w' (G1 ++ G) := by
 have h' := h.over hk
 obtain ⟨S, hs, hF⟩ := h.sat
 refine ⟨h'.keep, ?_⟩
 have hsz : w0.heap.size ≤ w.heap.size := h.keep.size
 have hs' : Sat w' G S := hs.loc (fun b hb => hk.block b (hs.lt b hb) id) hk.size
 have hlt := hs.lt
 clear hs h' h
 suffices hh : ∃ S', Sat w' (G1 ++ G) S' ∧ ∀ b, S' b ↔ S1 b ∨ S b by
  obtain ⟨S', ha, hb⟩ := hh
  exact ⟨S', ha, fun b hx => ((hb b).1 hx).elim (fun h => .inr (Nat.le_trans hsz (hnew b h))) (hF b)⟩
 induction h1 with
 | nil h0 => exact ⟨S, hs', fun b => ⟨.inr, fun h => h.elim (fun h => absurd h (h0 b)) id⟩⟩
 | cons ha hl hg hd hS ih =>
  obtain ⟨S', ha', hb'⟩ := ih (fun b hb => hnew b ((hS b).2 (.inr hb)))
  rename_i A G3 S0 SA SB
  refine ⟨fun b => SA b ∨ S' b, .cons ha hl ha' ?_ (fun _ => Iff.rfl), fun b => ?_⟩
  ·
   intro b h1 h2
   rcases (hb' b).1 h2 with h3 | h3
   ·
    exact hd b h1 h3
   ·
    have := hlt b h3; have := hnew b ((hS b).2 (.inl h1)); omega
  ·
   show SA b ∨ S' b ↔ S0 b ∨ S b
   rw [hb' b, hS b]
   constructor
   ·
    rintro (h | h | h)
    ·
     exact .inl (.inl h)
    ·
     exact .inl (.inr h)
    ·
     exact .inr h
   ·
    rintro ((h | h) | h)
    ·
     exact .inl h
    ·
     exact .inr (.inl h)
    ·
     exact .inr (.inr h)
theorem St.pick {A : Assn} (hp : Pick G A G') (h : St w0 F w G) : ∃ S, A.on w S := by
 obtain ⟨S, hs, _⟩ := h.sat
 obtain ⟨S1, _, ha, _⟩ := hs.pick hp
 exact ⟨S1, ha⟩
theorem St.now {R : World → Prop} (h : St w0 F w G) (hp : Pick G (hold R) G') : R w := by
 obtain ⟨_, ha⟩ := h.pick hp
 exact hold_now ha
theorem St.cell {b T n : Nat} {f : Nat → Value} (h : St w0 F w G) (hp : Pick G (pt b T n f) G') : w.heap[b]? = some (.cells (mkA n f) T (0, 0)) := by
 obtain ⟨_, ha⟩ := h.pick hp
 exact ha.2
/-- Two assertions as one. -/
theorem St.join {A B C : Assn} (h : St w0 F w (A :: B :: G)) (hj : ∀ w S1 S2, A.on w S1 → B.on w S2 → (∀ b, S1 b → ¬ S2 b) → C.on w (fun b => S1 b ∨ S2 b)) : St w0 F w (C :: G) := by
 obtain ⟨S, hs, hF⟩ := h.sat
 refine ⟨h.keep, S, ?_, hF⟩
 cases hs with
 | cons ha hl hs hd hS =>
  cases hs with
  | cons hb hlb hg hd' hS' =>
   rename_i SA S2 SB S3
   refine .cons (hj w SA SB ha hb (fun b h1 h2 => hd b h1 ((hS' b).2 (.inl h2)))) (fun b h => h.elim (hl b) (hlb b)) hg ?_ ?_
   ·
    rintro b (h | h) h3
    ·
     exact hd b h ((hS' b).2 (.inr h3))
    ·
     exact hd' b h h3
   ·
    intro b
    rw [hS b, hS' b]
    exact (or_assoc).symm
/-- Two assertions sealed as one. -/
theorem St.seal2 {A B : Assn} {R : World → Prop} (h : St w0 F w (A :: B :: G)) (hj : ∀ w S1 S2, A.on w S1 → B.on w S2 → R w) : St w0 F w (hold R :: G) :=
 h.join fun w S1 S2 ha hb _ w' hk => hj w' S1 S2 (A.loc _ _ _ ha fun b hb => hk b (.inl hb)) (B.loc _ _ _ hb fun b hb => hk b (.inr hb))
theorem St.front {A : Assn} (hp : Pick G A G') (h : St w0 F w G) : St w0 F w (A :: G') := by
 obtain ⟨S, hs, hF⟩ := h.sat
 obtain ⟨S1, S2, ha, hl, hg, hd, hS⟩ := hs.pick hp
 exact ⟨h.keep, S, .cons ha hl hg hd hS, hF⟩
theorem St.drop {A : Assn} (hp : Pick G A G') (h : St w0 F w G) : St w0 F w G' := by
 obtain ⟨S, hs, hF⟩ := h.sat
 obtain ⟨S1, S2, ha, hl, hg, hd, hS⟩ := hs.pick hp
 exact ⟨h.keep, S2, hg, fun b hb => hF b ((hS b).2 (.inr hb))⟩
end
/-! ### what a call leaves -/
/-- The call returns a value, and the world that it leaves. -/
def CallsR (P : Program) (f : FuncId) (args : Array Value) (w : World) (R : Value → World → Prop) : Prop := Calls P f args w fun e w' => ∃ v, e = .returned v ∧ R v w'
theorem CallsR.mono {P : Program} {f : FuncId} {args : Array Value} {w : World} {R R' : Value → World → Prop} (h : CallsR P f args w R) (hr : ∀ v w', R v w' → R' v w') : CallsR P f args w R' :=
 Calls.mono h fun _ _ ⟨v, he, hv⟩ => ⟨v, he, hr _ _ hv⟩
/-- Called with the memory G at hand it returns some v with memory G', such that R v G'. -/
def SpecR (S : Foot) (w : World) (R : Value → List Assn → Prop) (v : Value) (w' : World) : Prop := ∃ G' S', R v G' ∧ Keep S w w' ∧ Sat w' G' S' ∧ ∀ b, S' b → S b ∨ w.heap.size ≤ b
def Spec (P : Program) (f : FuncId) (args : Array Value) (G : List Assn) (R : Value → List Assn → Prop) : Prop :=
 ∀ w S, Sat w G S → CallsR P f args w (SpecR S w R)
theorem St.spec {R : Value → List Assn → Prop} {v : Value} {w w' : World} {S : Foot} {G' : List Assn} (h : St w S w' G') (hr : R v G') : SpecR S w R v w' := by
 obtain ⟨S', hs, hF⟩ := h.sat
 exact ⟨G', S', hr, h.keep, hs, hF⟩
end Go.Proofs.YtmalghopogngoaaGreatDoor.MW
set_option linter.unusedVariables false
namespace Go.Proofs.YtmalghopogngoaaGreatDoor.MW
open Go Go.RowKit
/-- Cells written out. -/
def cl : List Value → Nat → Value
 | [], _ => undef
 | v :: r, i => bif Nat.beq i 0 then v else cl r (i - 1)
theorem mkA_cl (l : List Value) : mkA l.length (cl l) = l.toArray := by
 refine (mkA_ext (by simp) fun i hi => ?_).symm
 induction l generalizing i with
 | nil => simp at hi
 | cons v r ih =>
  cases i with
  | zero => simp [cl]
  | succ i =>
   have := ih i (by simpa using hi)
   simp at this
   simp only [List.getElem?_toArray, List.getElem?_cons_succ, cl, this]
   rfl
/-! ### the tables, asked once -/
def isAggD : TypeDesc → Bool
 | .struct _ | .array _ _ => true
 | _ => false
def oneOf (P : Program) (T : TypeId) : Bool := match P.underlying T, P.info? T with
 | some d, some i => !isAggD d && i.size == 1
 | _, _ => false
def aggOf (P : Program) (T : TypeId) : Option Nat := match P.underlying T, P.info? T with
 | some d, some i => if isAggD d then some i.size else none
 | _, _ => none
def fieldOf (P : Program) (S fld : Nat) : Option (Nat × Nat) := match P.underlying S with
 | some (.struct fs) => match fs[fld]? with
  | some f => match P.info? f.type with
   | some i => if i.size = 0 then none else some (f.offset, i.size)
   | none => none
  | none => none
 | _ => none
def sliceOf (P : Program) (T : TypeId) : Option (TypeId × Nat) := match P.underlying T with
 | some (.slice e) => match P.info? e with
  | some i => some (e, i.size)
  | none => none
 | _ => none
def zeroOf (P : Program) (T : TypeId) : Option (List Value) := match P.info? T with
 | some i => i.zero.map (·.cells.toList)
 | none => none
def concrete (P : Program) (T : TypeId) : Bool := match P.underlying T with
 | some (.interface _) => false
 | some _ => true
 | none => false
class One (P : Program) (T : TypeId) : Prop where out : oneOf P T = true
class Agg (P : Program) (T : TypeId) (n : outParam Nat) : Prop where out : aggOf P T = some n
class FieldAt (P : Program) (S fld : Nat) (off sz : outParam Nat) : Prop where out : fieldOf P S fld = some (off, sz)
class SliceT (P : Program) (T : TypeId) (e : outParam TypeId) (n : outParam Nat) : Prop where out : sliceOf P T = some (e, n)
class Zero (P : Program) (T : TypeId) (z : outParam (List Value)) : Prop where out : zeroOf P T = some z
class Conc (P : Program) (T : TypeId) : Prop where out : concrete P T = true
class Fun (P : Program) (f : FuncId) : Prop where out : ∃ fn, P.funcs[f]? = some fn ∧ fn.name ≠ "runtime.NumGoroutine" ∧ fn.body.isNone = false
section
variable {P : Program} {w : World}
theorem One.und {T : TypeId} (h : One P T) : ∃ d i, P.underlying T = some d ∧ P.info? T = some i ∧ isAggD d = false ∧ i.size = 1 := by
 have h := h.out
 unfold oneOf at h
 split at h
 ·
  rename_i d i hd hi
  simp at h
  exact ⟨d, i, hd, hi, h.1, h.2⟩
 ·
  cases h
theorem Agg.und {T n : Nat} (h : Agg P T n) : ∃ d i, P.underlying T = some d ∧ P.info? T = some i ∧ isAggD d = true ∧ i.size = n := by
 have h := h.out
 unfold aggOf at h
 split at h
 ·
  rename_i d i hd hi
  split at h
  ·
   rename_i hg; exact ⟨d, i, hd, hi, hg, Option.some.inj h⟩
  ·
   cases h
 ·
  cases h
theorem FieldAt.und {S fld off sz : Nat} (h : FieldAt P S fld off sz) : ∃ fs f i, P.underlying S = some (.struct fs) ∧ fs[fld]? = some f ∧ P.info? f.type = some i ∧ i.size ≠ 0 ∧ f.offset = off ∧ i.size = sz := by
 have h := h.out
 unfold fieldOf at h
 split at h
 ·
  rename_i fs hu
  split at h
  ·
   rename_i f hf
   split at h
   ·
    rename_i i hi
    split at h
    ·
     cases h
    ·
     rename_i hz
     have h := Option.some.inj h
     simp at h
     exact ⟨fs, f, i, hu, hf, hi, hz, h.1, h.2⟩
   ·
    cases h
  ·
   cases h
 ·
  cases h
theorem SliceT.und {T e n : Nat} (h : SliceT P T e n) : ∃ i, P.underlying T = some (.slice e) ∧ P.info? e = some i ∧ i.size = n := by
 have h := h.out
 unfold sliceOf at h
 split at h
 ·
  rename_i e' hu
  split at h
  ·
   rename_i i hi
   have := Option.some.inj h
   simp at this
   obtain ⟨rfl, rfl⟩ := this
   exact ⟨i, hu, hi, rfl⟩
  ·
   cases h
 ·
  cases h
theorem Zero.und {T : Nat} {z : List Value} (h : Zero P T z) : ∃ i v, P.info? T = some i ∧ i.zero = some v ∧ v.cells.toList = z := by
 have h := h.out
 unfold zeroOf at h
 split at h
 ·
  rename_i i hi
  cases hz : i.zero with
  | none => rw [hz] at h; cases h
  | some v => rw [hz] at h; exact ⟨i, v, hi, hz, Option.some.inj h⟩
 ·
  cases h
theorem ru {T : TypeId} {d : TypeDesc} (h : P.underlying T = some d) (w : World) : (underlying T).run P w = .ok d w := run_underlying h w
theorem ri {T : TypeId} {i : TypeInfo} (h : P.info? T = some i) (w : World) : (typeInfo T).run P w = .ok i w := by simp [typeInfo, h]
theorem add_at (b o n : Nat) : (⟨b, o, none⟩ : Addr).add n = ⟨b, o + n, none⟩ := by unfold Addr.add; split <;> simp_all
/-! ### loads -/
theorem rl_load1 {T : TypeId} [h : One P T] {b o : Nat} {v : Value} (hc : w.cell? ⟨b, o, none⟩ = some v) : (Instr.loadAt T (.pointer (some ⟨b, o, none⟩))).run P w = .ok v w := by
 obtain ⟨d, i, hd, hi, hg, hs⟩ := h.und
 cases d <;> first | (simp [isAggD] at hg; done) | simp [Instr.loadAt, Instr.sureAddr, loadVar, isAgg, ru hd, hc]
theorem rl_loadA {T n : TypeId} [h : Agg P T n] {b o : Nat} {g : Nat → Value} (hc : ∀ i, i < n → w.cell? ⟨b, o + i, none⟩ = some (g i)) :
  (Instr.loadAt T (.pointer (some ⟨b, o, none⟩))).run P w = .ok (.agg (mkA n g)) w := by
 obtain ⟨d, i, hd, hi, hg, hs⟩ := h.und
 subst hs
 have hl := run_loadCells (P := P) w ⟨b, o, none⟩ i.size g (fun j hj => by rw [add_at]; exact hc j hj)
 cases d <;> first | (simp [isAggD] at hg; done) | simp [Instr.loadAt, Instr.sureAddr, loadVar, isAgg, ru hd, sizeOf, ri hi, hl, mkA]
/-! ### stores -/
theorem oneCell_cells {v : Value} (h : v.oneCell' = true) : v.cells = #[v] := by cases v <;> first | rfl | simp [Value.oneCell'] at h
/-- What a store does to a block whose cells are known. -/
theorem rl_store1 {T : TypeId} [h : One P T] {b o n T' : Nat} {f : Nat → Value} {v : Value} (hb : w.heap[b]? = some (.cells (mkA n f) T' (0, 0))) (ho : o < n) (hv : v.oneCell' = true) :
  (Instr.storeAt T (.pointer (some ⟨b, o, none⟩)) v).run P w = .ok () (w.setCell ⟨b, o, none⟩ v) := by
 obtain ⟨d, i, hd, hi, hg, hs⟩ := h.und
 have hc : w.cell? ⟨b, o, none⟩ = some (f o) := by simp [World.cell?, hb, mkA_get n f o ho]
 have hf : w.frozen? ⟨b, o, none⟩ = false := by simp [World.frozen?, hb]
 have hst := run_store P w ⟨b, o, none⟩ v .plain hv
 rw [hc] at hst
 simp only [hf] at hst
 simp [Instr.storeAt, Instr.sureAddr, storeVar, oneCell_cells hv, sizeOf, ri hi, hs, storeCells, add_at, hst]
theorem setCell_block {b o n T' : Nat} {f : Nat → Value} {v : Value} (hb : w.heap[b]? = some (.cells (mkA n f) T' (0, 0))) :
  (w.setCell ⟨b, o, none⟩ v).heap[b]? = some (.cells (mkA n (updC f o v)) T' (0, 0)) := by
 simp [World.setCell, Array.getElem?_modify, hb, mkA_set]
theorem setRow_at {b T' : Nat} {c : Array Value} (cells : Array Value) (hb : w.heap[b]? = some (.cells c T' (0, 0))) : (w.setRow b cells).heap[b]? = some (.cells cells T' (0, 0)) := setRow_heap w b c _ T' _ hb
theorem rl_storeA {T m : TypeId} [h : Agg P T m] {b o n T' : Nat} {f g : Nat → Value} (hb : w.heap[b]? = some (.cells (mkA n f) T' (0, 0))) (ho : o + m ≤ n) (hv : ∀ i, i < m → (g i).oneCell' = true) :
  ∃ w', (Instr.storeAt T (.pointer (some ⟨b, o, none⟩)) (.agg (mkA m g))).run P w = .ok () w' ∧ w'.heap[b]? = some (.cells (mkA n (lay f o m g)) T' (0, 0)) ∧ w'.os = w.os ∧ w'.tape = w.tape ∧ w'.output = w.output ∧ w'.heap.size = w.heap.size ∧ ∀ k, k ≠ b → w'.heap[k]? = w.heap[k]? := by
 obtain ⟨d, i, hd, hi, hg, hs⟩ := h.und
 subst hs
 have hst := run_storeCells_at P b o T' (mkA i.size g).toList 0 (mkA n f) w hb (by simp [mkA_size]; omega) (by
  intro u hu
  obtain ⟨j, hj⟩ := List.mem_iff_getElem?.1 hu
  rw [Array.getElem?_toList] at hj
  have hlt : j < i.size := by
   have := (Array.getElem?_eq_some_iff.1 hj).1
   rwa [mkA_size] at this
  rw [mkA_get _ _ _ hlt] at hj
  obtain rfl := Option.some.inj hj
  exact hv j hlt)
 simp only [Nat.add_zero] at hst
 generalize hX : (List.take o (mkA n f).toList ++ (mkA i.size g).toList ++ List.drop (o + (mkA i.size g).toList.length) (mkA n f).toList).toArray = X at hst
 refine ⟨w.setRow b X, ?_, ?_, rfl, rfl, rfl, by simp [World.setRow], fun k hk => setRow_other w b k X hk⟩
 rotate_left
 ·
  rw [setRow_at _ hb, ← hX]
  congr 2
  refine mkA_ext ?_ fun j hj => ?_
  ·
   simp [mkA_size]; omega
  ·
   have hlen : (mkA i.size g).toList.length = i.size := by simp [mkA_size]
   have hlenf : (mkA n f).toList.length = n := by simp [mkA_size]
   unfold lay
   simp only [Nat.add_zero, List.getElem?_toArray]
   by_cases h1 : j < o
   ·
    rw [List.append_assoc, List.getElem?_append_left (by rw [List.length_take]; omega), List.getElem?_take, if_pos h1, Array.getElem?_toList, mkA_get n f j hj]
    have : Nat.ble o j = false := by
     cases hb : Nat.ble o j with
     | true => have := Nat.le_of_ble_eq_true hb; omega
     | false => rfl
    rw [this]; rfl
   ·
    have e1 : Nat.ble o j = true := Nat.ble_eq_true_of_le (by omega)
    rw [e1]
    by_cases h2 : j < o + i.size
    ·
     have e2 : Nat.blt j (o + i.size) = true := Nat.ble_eq_true_of_le h2
     rw [e2, List.append_assoc, List.getElem?_append_right (by rw [List.length_take]; omega), List.length_take, List.getElem?_append_left (by omega), Array.getElem?_toList,
      show min o (mkA n f).toList.length = o by omega, mkA_get _ _ _ (by omega)]
     rfl
    ·
     have e2 : Nat.blt j (o + i.size) = false := by
      cases hb : Nat.blt j (o + i.size) with
      | true => exact absurd (Nat.le_of_ble_eq_true hb) (by omega)
      | false => rfl
     rw [e2, List.getElem?_append_right (by simp [mkA_size]; omega), List.getElem?_drop, Array.getElem?_toList]
     simp only [List.length_append, List.length_take, hlen, hlenf]
     rw [show o + i.size + (j - (min o n + i.size)) = j by omega, mkA_get n f j hj]
     rfl
 ·
  simp only [Instr.storeAt, Instr.sureAddr, storeVar, Value.cells, Sem.run_bind, Sem.run_pure, Result.andThen_ok, sizeOf, ri hi, mkA_size]
  simp only [ne_eq, not_true_eq_false, if_false]
  exact hst
end
end Go.Proofs.YtmalghopogngoaaGreatDoor.MW
set_option linter.unusedVariables false
namespace Go.Proofs.YtmalghopogngoaaGreatDoor.MW
open Go Go.RowKit
def WL (P : Program) (ops : Array Oper) (N : Nat) (l : List Oper) (Q : Exit → Env → World → Prop) (e : Env) (w : World) : Prop :=
 ∀ a, Sh N e a → wpList P ops (fun x a' w' => ∃ e', Sh N e' a' ∧ Q x e' w') l a w
section
variable {P : Program} {N : Nat} {Q : Exit → Env → World → Prop} {e : Env} {w : World} {ops : Array Oper} {rest : List Oper}
theorem W_reg {id : Nat} {l : List Oper} (h : WL P l.toArray N l Q e w) : W P N (.region id l.toArray false) Q e w := fun a ha => wp_region_lit (h a ha)
theorem WL_nil (h : Q .normal e w) : WL P ops N [] Q e w := fun a ha => wpList_nil ⟨e, ha, h⟩
theorem WL_th {K : Env → World → Prop} (h : K e w) : WL P ops N [] (Th K Q) e w := WL_nil h
/-- An operation that leaves a value. -/
theorem s_val {o : Oper} {d : Nat} {v : Value} {w' : World} (hg : o.guard = none) (hd : o.dst = some d) (hN : Nat.blt d N = true)
  (hrun : ∀ a, Sh N e a → (execOp a.eval o).run P w = .ok (.value v) w') (h : WL P ops N rest Q (upd e d v) w') : WL P ops N (o :: rest) Q e w := by
 intro a ha
 unfold wpList
 rw [if_pos (by simp [Region.wanted, hg])]
 refine .inl ?_
 unfold Oper.wp
 rw [hrun a ha, Oper.upon_value, hd]
 exact h _ (ha.put hN v)
theorem s_unit {o : Oper} {w' : World} (hg : o.guard = none) (hd : o.dst = none)
  (hrun : ∀ a, Sh N e a → (execOp a.eval o).run P w = .ok .skip w') (h : WL P ops N rest Q e w') : WL P ops N (o :: rest) Q e w := by
 intro a ha
 unfold wpList
 rw [if_pos (by simp [Region.wanted, hg])]
 refine .inl ?_
 unfold Oper.wp
 rw [hrun a ha, Oper.upon_skip, hd]
 exact h _ ha
theorem s_enter {o : Oper} {d : Nat} {f : FuncId} {args : Array Value} {R : Value → World → Prop} (hg : o.guard = none) (hd : o.dst = some d) (hN : Nat.blt d N = true)
  (hrun : ∀ a, Sh N e a → (execOp a.eval o).run P w = .ok (.enter f args) w) (hc : CallsR P f args w R) (h : ∀ v w', R v w' → WL P ops N rest Q (upd e d v) w') : WL P ops N (o :: rest) Q e w := by
 intro a ha
 unfold wpList
 rw [if_pos (by simp [Region.wanted, hg])]
 refine .inl ?_
 unfold Oper.wp
 rw [hrun a ha, Oper.upon_enter, hd]
 refine Calls.mono hc ?_
 rintro en w' ⟨v, rfl, hv⟩
 exact h v w' hv _ (ha.put hN v)
/-! guards -/
theorem yielded_of {a : Act} {j dj : Nat} {b : Bool} (ha : Sh N e a) (hj : (ops[j]?).bind (·.dst) = some dj) (hN : Nat.blt dj N = true) (hv : e dj = some (.bool b)) : yielded ops a.tmps j = some b := by
 have h := ha.get _ _ hv
 have hlt : dj < a.tmps.size := by rw [ha.size]; exact Nat.le_of_ble_eq_true hN
 rw [Array.getD_eq_getD_getElem?, Array.getElem?_eq_getElem hlt] at h
 simp at h
 unfold yielded
 rw [hj]
 simp [Array.getElem?_eq_getElem hlt, h]
theorem g_take {dst : Option Tmp} {op : Op} {ty : TypeId} {pos : String} {af : Array Edge} {j dj : Nat} {b : Bool} (hj : (ops[j]?).bind (·.dst) = some dj) (hN : Nat.blt dj N = true) (hv : e dj = some (.bool b))
  (h : WL P ops N (⟨dst, op, ty, pos, af, none⟩ :: rest) Q e w) : WL P ops N (⟨dst, op, ty, pos, af, some (j, b)⟩ :: rest) Q e w := by
 intro a ha
 have h' := h a ha
 unfold wpList at h' ⊢
 rw [if_pos (by simp [Region.wanted])] at h'
 rw [if_pos (by simp [Region.wanted, yielded_of ha hj hN hv])]
 exact h'
theorem g_skip {d : Nat} {op : Op} {ty : TypeId} {pos : String} {af : Array Edge} {j dj : Nat} {b c : Bool} (hj : (ops[j]?).bind (·.dst) = some dj) (hN : Nat.blt dj N = true) (hv : e dj = some (.bool b)) (hbc : b = !c) (hd : Nat.blt d N = true)
  (h : WL P ops N rest Q (upd e d undef) w) : WL P ops N (⟨some d, op, ty, pos, af, some (j, c)⟩ :: rest) Q e w := by
 subst hbc
 intro a ha
 unfold wpList
 rw [if_neg (by simp only [Region.wanted]; rw [yielded_of ha hj hN hv]; cases c <;> simp)]
 exact h _ (ha.put hd _)
/-- What an operation yields in whatever world. -/
def Pu (P : Program) (N : Nat) (e : Env) (op : Op) (v : Value) : Prop :=
 ∀ a, Sh N e a → ∀ w d ty pos af g, (execOp a.eval ⟨d, op, ty, pos, af, g⟩).run P w = .ok (.value v) w
/-- What it yields in this world. -/
def At (P : Program) (N : Nat) (e : Env) (op : Op) (w : World) (v : Value) : Prop :=
 ∀ a, Sh N e a → ∀ d ty pos af g, (execOp a.eval ⟨d, op, ty, pos, af, g⟩).run P w = .ok (.value v) w
theorem Pu.at {op : Op} {v : Value} (h : Pu P N e op v) (w : World) : At P N e op w v := fun a ha => h a ha w
theorem s_at {d : Nat} {op : Op} {v : Value} {ty : TypeId} {pos : String} {af : Array Edge} (hp : At P N e op w v) (hN : Nat.blt d N = true) (h : WL P ops N rest Q (upd e d v) w) :
  WL P ops N (⟨some d, op, ty, pos, af, none⟩ :: rest) Q e w := s_val rfl rfl hN (fun a ha => hp a ha _ _ _ _ _) h
theorem s_pu {d : Nat} {op : Op} {v : Value} {ty : TypeId} {pos : String} {af : Array Edge} (hp : Pu P N e op v) (hN : Nat.blt d N = true) (h : WL P ops N rest Q (upd e d v) w) :
  WL P ops N (⟨some d, op, ty, pos, af, none⟩ :: rest) Q e w := s_val rfl rfl hN (fun a ha => hp a ha _ _ _ _ _ _) h
/-- What an operation makes of the world: a value, and another world. -/
def Mk (P : Program) (N : Nat) (e : Env) (op : Op) (w : World) (v : Value) (w' : World) : Prop :=
 ∀ a, Sh N e a → ∀ d ty pos af g, (execOp a.eval ⟨d, op, ty, pos, af, g⟩).run P w = .ok (.value v) w'
theorem s_mk {d : Nat} {op : Op} {v : Value} {w' : World} {ty : TypeId} {pos : String} {af : Array Edge} (hp : Mk P N e op w v w') (hN : Nat.blt d N = true) (h : WL P ops N rest Q (upd e d v) w') :
  WL P ops N (⟨some d, op, ty, pos, af, none⟩ :: rest) Q e w := s_val rfl rfl hN (fun a ha => hp a ha _ _ _ _ _) h
/-- A store. -/
def Wr (P : Program) (N : Nat) (e : Env) (op : Op) (w w' : World) : Prop :=
 ∀ a, Sh N e a → ∀ d ty pos af g, (execOp a.eval ⟨d, op, ty, pos, af, g⟩).run P w = .ok .skip w'
theorem s_wr {op : Op} {w' : World} {ty : TypeId} {pos : String} {af : Array Edge} (hp : Wr P N e op w w') (h : WL P ops N rest Q e w') :
  WL P ops N (⟨none, op, ty, pos, af, none⟩ :: rest) Q e w := s_unit rfl rfl (fun a ha => hp a ha _ _ _ _ _) h
end
end Go.Proofs.YtmalghopogngoaaGreatDoor.MW
set_option linter.unusedVariables false
set_option linter.unusedSimpArgs false
namespace Go.Proofs.YtmalghopogngoaaGreatDoor.MW
open Go Go.RowKit
section
variable {P : Program} {N : Nat} {e : Env} {w : World}
theorem p_move {x : Operand} {v : Value} (hx : evo e x = some v) : Pu P N e (.move x) v := fun a ha w d ty pos af g => by simp [execOp, ha.eval hx]
theorem p_assign {x : Operand} {v : Value} (hx : evo e x = some v) : Pu P N e (.assign x) v := fun a ha w d ty pos af g => by simp [execOp, ha.eval hx]
theorem p_pickT {c x y : Operand} {v : Value} (hc : evo e c = some (.bool true)) (hx : evo e x = some v) : Pu P N e (.pick c x y) v := fun a ha w d ty pos af g => by
 simp [execOp, ha.eval hc, ha.eval hx, asBool]
theorem p_pickF {c x y : Operand} {v : Value} (hc : evo e c = some (.bool false)) (hx : evo e y = some v) : Pu P N e (.pick c x y) v := fun a ha w d ty pos af g => by
 simp [execOp, ha.eval hc, ha.eval hx, asBool]
theorem p_field {S fld off sz : Nat} [h : FieldAt P S fld off sz] {x : Operand} {b o : Nat} (hx : evo e x = some (.pointer (some ⟨b, o, none⟩))) :
  Pu P N e (.fieldAddr S x fld) (.pointer (some ⟨b, o + off, none⟩)) := fun a ha w d ty pos af g => by
 obtain ⟨fs, f, i, hu, hf, hi, hz, rfl, _⟩ := h.und
 simp [execOp, ha.eval hx, Instr.fieldAt, ru hu, hf, Instr.sureAddr, fieldPlace, sizeOf, ri hi, hz, add_at]
theorem p_nilCheck {x : Operand} {ad : Addr} (hx : evo e x = some (.pointer (some ad))) : Pu P N e (.nilCheck x) (.pointer (some ad)) := fun a ha w d ty pos af g => by
 simp [execOp, ha.eval hx]
theorem p_iface {T : TypeId} [h : Conc P T] {x : Operand} {v : Value} (hx : evo e x = some v) : Pu P N e (.makeInterface T x) (.iface T v) := fun a ha w d ty pos af g => by
 have hc := h.out
 unfold concrete at hc
 split at hc
 ·
  cases hc
 ·
  rename_i d' hd hn
  cases d' <;> first | (simp at hn; done) | simp [execOp, ha.eval hx, Instr.makeInterface, ru hn] | skip
  all_goals simp_all [execOp, ha.eval hx, Instr.makeInterface, ru hn]
 ·
  cases hc
theorem p_extract {x : Operand} {i : Nat} {vs : List Value} {v : Value} (hx : evo e x = some (.tuple vs.toArray)) (hv : vs[i]? = some v) : Pu P N e (.extract x i) v := fun a ha w d ty pos af g => by
 simp [execOp, ha.eval hx, Instr.extract, hv]
theorem p_not {T : TypeId} {x : Operand} {b : Bool} (hx : evo e x = some (.bool b)) : Pu P N e (.unOp .not T x) (.bool (!b)) := fun a ha w d ty pos af g => by
 simp [execOp, ha.eval hx, Op.unary]
/-! numbers -/
theorem p_eqI {T U : TypeId} {x y : Operand} {k : IntKind} {m n : Int} (hx : evo e x = some (.int k m)) (hy : evo e y = some (.int k n)) : Pu P N e (.binOp .eql T x y U) (.bool (m == n)) := fun a ha w d ty pos af g => by
 simp [execOp, ha.eval hx, ha.eval hy, eqGuard, binOp, Op.intCmp]
theorem p_neI {T U : TypeId} {x y : Operand} {k : IntKind} {m n : Int} (hx : evo e x = some (.int k m)) (hy : evo e y = some (.int k n)) : Pu P N e (.binOp .neq T x y U) (.bool (m != n)) := fun a ha w d ty pos af g => by
 simp [execOp, ha.eval hx, ha.eval hy, eqGuard, binOp, Op.intCmp]
theorem p_ltI {T U : TypeId} {x y : Operand} {k : IntKind} {m n : Int} (hx : evo e x = some (.int k m)) (hy : evo e y = some (.int k n)) : Pu P N e (.binOp .lss T x y U) (.bool (decide (m < n))) := fun a ha w d ty pos af g => by
 simp [execOp, ha.eval hx, ha.eval hy, eqGuard, binOp, Op.intCmp]
theorem p_leI {T U : TypeId} {x y : Operand} {k : IntKind} {m n : Int} (hx : evo e x = some (.int k m)) (hy : evo e y = some (.int k n)) : Pu P N e (.binOp .leq T x y U) (.bool (decide (m ≤ n))) := fun a ha w d ty pos af g => by
 simp [execOp, ha.eval hx, ha.eval hy, eqGuard, binOp, Op.intCmp]
theorem p_gtI {T U : TypeId} {x y : Operand} {k : IntKind} {m n : Int} (hx : evo e x = some (.int k m)) (hy : evo e y = some (.int k n)) : Pu P N e (.binOp .gtr T x y U) (.bool (decide (n < m))) := fun a ha w d ty pos af g => by
 simp [execOp, ha.eval hx, ha.eval hy, eqGuard, binOp, Op.intCmp]
theorem p_geI {T U : TypeId} {x y : Operand} {k : IntKind} {m n : Int} (hx : evo e x = some (.int k m)) (hy : evo e y = some (.int k n)) : Pu P N e (.binOp .geq T x y U) (.bool (decide (n ≤ m))) := fun a ha w d ty pos af g => by
 simp [execOp, ha.eval hx, ha.eval hy, eqGuard, binOp, Op.intCmp]
theorem p_addW {T U : TypeId} {x y : Operand} {k : IntKind} {m n : Int} (hx : evo e x = some (.int k m)) (hy : evo e y = some (.int k n)) : Pu P N e (.binOp .add T x y U) (.int k (k.wrap (m + n))) := fun a ha w d ty pos af g => by
 simp [execOp, ha.eval hx, ha.eval hy, eqGuard, binOp, Op.intArith]
theorem p_subW {T U : TypeId} {x y : Operand} {k : IntKind} {m n : Int} (hx : evo e x = some (.int k m)) (hy : evo e y = some (.int k n)) : Pu P N e (.binOp .sub T x y U) (.int k (k.wrap (m - n))) := fun a ha w d ty pos af g => by
 simp [execOp, ha.eval hx, ha.eval hy, eqGuard, binOp, Op.intArith]
theorem p_mulW {T U : TypeId} {x y : Operand} {k : IntKind} {m n : Int} (hx : evo e x = some (.int k m)) (hy : evo e y = some (.int k n)) : Pu P N e (.binOp .mul T x y U) (.int k (k.wrap (m * n))) := fun a ha w d ty pos af g => by
 simp [execOp, ha.eval hx, ha.eval hy, eqGuard, binOp, Op.intArith]
theorem wrap_in (z : Int) (h : -9223372036854775808 ≤ z ∧ z ≤ 9223372036854775807) : IntKind.i64.wrap z = z := by
 simp only [IntKind.wrap_i64]
 omega
theorem p_addI {T U : TypeId} {x y : Operand} {m n : Int} (hx : evo e x = some (.int .i64 m)) (hy : evo e y = some (.int .i64 n)) (hr : -9223372036854775808 ≤ m + n ∧ m + n ≤ 9223372036854775807) : Pu P N e (.binOp .add T x y U) (.int .i64 (m + n)) := by
 have := p_addW (P := P) (N := N) (T := T) (U := U) hx hy
 rwa [wrap_in _ hr] at this
theorem p_subI {T U : TypeId} {x y : Operand} {m n : Int} (hx : evo e x = some (.int .i64 m)) (hy : evo e y = some (.int .i64 n)) (hr : -9223372036854775808 ≤ m - n ∧ m - n ≤ 9223372036854775807) : Pu P N e (.binOp .sub T x y U) (.int .i64 (m - n)) := by
 have := p_subW (P := P) (N := N) (T := T) (U := U) hx hy
 rwa [wrap_in _ hr] at this
theorem p_rem {T U : TypeId} {x y : Operand} {k : IntKind} {m n : Int} (hx : evo e x = some (.int k m)) (hy : evo e y = some (.int k n)) (hn : n ≠ 0) : Pu P N e (.binOp .rem T x y U) (.int k (m.tmod n)) := fun a ha w d ty pos af g => by
 simp [execOp, ha.eval hx, ha.eval hy, eqGuard, binOp, Op.intDiv, hn]
theorem p_quo {T U : TypeId} {x y : Operand} {k : IntKind} {m n : Int} (hx : evo e x = some (.int k m)) (hy : evo e y = some (.int k n)) (hn : n ≠ 0) : Pu P N e (.binOp .quo T x y U) (.int k (k.wrap (m.tdiv n))) := fun a ha w d ty pos af g => by
 simp [execOp, ha.eval hx, ha.eval hy, eqGuard, binOp, Op.intDiv, hn]
def bitsV (op : BinOp) (k : IntKind) (m n : Int) : Int :=
 let a := BitVec.ofInt k.bits m
 let b := BitVec.ofInt k.bits n
 match op with
 | .and => k.wrap (a &&& b).toNat
 | .or => k.wrap (a ||| b).toNat
 | .xor => k.wrap (a ^^^ b).toNat
 | _ => k.wrap (a &&& ~~~b).toNat
theorem p_and {T U : TypeId} {x y : Operand} {k : IntKind} {m n : Int} (hx : evo e x = some (.int k m)) (hy : evo e y = some (.int k n)) : Pu P N e (.binOp .and T x y U) (.int k (bitsV .and k m n)) := fun a ha w d ty pos af g => by
 simp [execOp, ha.eval hx, ha.eval hy, eqGuard, binOp, Op.intBits, bitsV]
theorem p_or {T U : TypeId} {x y : Operand} {k : IntKind} {m n : Int} (hx : evo e x = some (.int k m)) (hy : evo e y = some (.int k n)) : Pu P N e (.binOp .or T x y U) (.int k (bitsV .or k m n)) := fun a ha w d ty pos af g => by
 simp [execOp, ha.eval hx, ha.eval hy, eqGuard, binOp, Op.intBits, bitsV]
theorem p_andNot {T U : TypeId} {x y : Operand} {k : IntKind} {m n : Int} (hx : evo e x = some (.int k m)) (hy : evo e y = some (.int k n)) : Pu P N e (.binOp .andNot T x y U) (.int k (bitsV .andNot k m n)) := fun a ha w d ty pos af g => by
 simp [execOp, ha.eval hx, ha.eval hy, eqGuard, binOp, Op.intBits, bitsV]
theorem p_shl {T U : TypeId} {x y : Operand} {k j : IntKind} {m n : Int} (hx : evo e x = some (.int k m)) (hy : evo e y = some (.int j n)) (hn : 0 ≤ n) : Pu P N e (.binOp .shl T x y U) (.int k (k.wrap (m * 2 ^ min n.toNat k.bits))) := fun a ha w d ty pos af g => by
 have : ¬ n < 0 := by omega
 simp [execOp, ha.eval hx, ha.eval hy, eqGuard, binOp, Op.shift, this]
theorem p_shr {T U : TypeId} {x y : Operand} {k j : IntKind} {m n : Int} (hx : evo e x = some (.int k m)) (hy : evo e y = some (.int j n)) (hn : 0 ≤ n) : Pu P N e (.binOp .shr T x y U) (.int k (m.fdiv (2 ^ min n.toNat k.bits))) := fun a ha w d ty pos af g => by
 have : ¬ n < 0 := by omega
 simp [execOp, ha.eval hx, ha.eval hy, eqGuard, binOp, Op.shift, this]
/-! texts -/
theorem p_eqS {T U : TypeId} {x y : Operand} {s t : ByteArray} (hx : evo e x = some (.string s)) (hy : evo e y = some (.string t)) : Pu P N e (.binOp .eql T x y U) (.bool (s.toList == t.toList)) := fun a ha w d ty pos af g => by
 simp [execOp, ha.eval hx, ha.eval hy, eqGuard, binOp, Op.stringOp]
theorem p_neS {T U : TypeId} {x y : Operand} {s t : ByteArray} (hx : evo e x = some (.string s)) (hy : evo e y = some (.string t)) : Pu P N e (.binOp .neq T x y U) (.bool (!(s.toList == t.toList))) := fun a ha w d ty pos af g => by
 simp [execOp, ha.eval hx, ha.eval hy, eqGuard, binOp, Op.stringOp]
/-! pointers against nil -/
theorem run_eqN (d : Nat) {T p : TypeId} (hu : P.underlying T = some (.pointer p)) (ad : Option Addr) (w : World) : (Op.equalIn (d + 1) T (.pointer ad) (.pointer none)).run P w = .ok ad.isNone w := by
 cases ad <;> simp [Op.equalIn, ru hu]
def isPtrB (P : Program) (T : TypeId) : Bool := match P.underlying T with
 | some (.pointer _) => true
 | _ => false
theorem isPtr_of {T : TypeId} (h : isPtrB P T = true) : ∃ p, P.underlying T = some (.pointer p) := by
 unfold isPtrB at h
 split at h
 ·
  exact ⟨_, by assumption⟩
 ·
  cases h
theorem p_eqN {T U : TypeId} {x : Operand} {ad : Option Addr} (hu : isPtrB P T = true) (hx : evo e x = some (.pointer ad)) : Pu P N e (.binOp .eql T x (.const (.pointer none)) U) (.bool ad.isNone) := fun a ha w d ty pos af g => by
 obtain ⟨p, hu⟩ := isPtr_of hu
 have h : (Op.equalIn 10000 T (.pointer ad) (.pointer none)).run P w = .ok ad.isNone w := run_eqN 9999 hu ad w
 have hb : binOp .eql T (.pointer ad) (.pointer none) = (do pure (.bool (← Op.equal T (.pointer ad) (.pointer none)))) := rfl
 have hx' := ha.eval hx
 have hn : a.eval (.const (.pointer none)) = .pointer none := rfl
 simp only [execOp, hx', hn]
 cases ad <;> simp only [eqGuard, Sem.run_bind, hb, Op.equal, Op.maxDepth, Result.andThen_ok, Sem.run_pure] <;> simp [h]
theorem p_neN {T U : TypeId} {x : Operand} {ad : Option Addr} (hu : isPtrB P T = true) (hx : evo e x = some (.pointer ad)) : Pu P N e (.binOp .neq T x (.const (.pointer none)) U) (.bool ad.isSome) := fun a ha w d ty pos af g => by
 obtain ⟨p, hu⟩ := isPtr_of hu
 have h : (Op.equalIn 10000 T (.pointer ad) (.pointer none)).run P w = .ok ad.isNone w := run_eqN 9999 hu ad w
 have hb : binOp .neq T (.pointer ad) (.pointer none) = (do pure (.bool (!(← Op.equal T (.pointer ad) (.pointer none))))) := rfl
 have hx' := ha.eval hx
 have hn : a.eval (.const (.pointer none)) = .pointer none := rfl
 simp only [execOp, hx', hn]
 cases ad <;> simp only [eqGuard, Sem.run_bind, hb, Op.equal, Op.maxDepth, Result.andThen_ok, Sem.run_pure] <;> simp [h]
/-! lengths, elements, parts -/
theorem p_lenS {T : TypeId} {x : Operand} {s : ByteArray} (hu : P.underlying T = some .string) (hx : evo e x = some (.string s)) :
  Pu P N e (.call ⟨.builtin .len, #[x], #[T]⟩) (.int .i64 s.size) := fun a ha w d ty pos af g => by
 simp [execOp, resolve, invoke, builtin, Builtin.len_, ha.eval hx, ru hu, goInt]
theorem p_lenL {T t n : TypeId} [h : SliceT P T t n] {x : Operand} {ad : Option Addr} {l c : Nat} (hx : evo e x = some (.slice ad l c)) :
  Pu P N e (.call ⟨.builtin .len, #[x], #[T]⟩) (.int .i64 l) := fun a ha w d ty pos af g => by
 obtain ⟨i, hu, _, _⟩ := h.und
 simp [execOp, resolve, invoke, builtin, Builtin.len_, ha.eval hx, ru hu, goInt]
theorem p_indexS {T : TypeId} {x y : Operand} {s : ByteArray} {k : IntKind} {i : Int} (hu : P.underlying T = some .string) (hx : evo e x = some (.string s)) (hy : evo e y = some (.int k i)) (h0 : 0 ≤ i) (h1 : i.toNat < s.size) :
  Pu P N e (.index T x y) (.int .u8 (s[i.toNat]'h1).toNat) := fun a ha w d ty pos af g => by
 have hs : s[i.toNat]? = some (s[i.toNat]'h1) := by simp [h1]
 simp [execOp, Instr.index, ha.eval hx, ha.eval hy, ru hu, asIntOf, h0, hs]
theorem p_elem {T t n : TypeId} [h : SliceT P T t n] {x y : Operand} {b o l c : Nat} {k : IntKind} {i : Int} (hx : evo e x = some (.slice (some ⟨b, o, none⟩) l c)) (hy : evo e y = some (.int k i)) (h0 : 0 ≤ i) (h1 : i < l) :
  Pu P N e (.indexAddr T x y) (.pointer (some ⟨b, o + i.toNat * n, none⟩)) := fun a ha w d ty pos af g => by
 obtain ⟨j, hu, hj, rfl⟩ := h.und
 simp [execOp, Instr.indexAt, ha.eval hx, ha.eval hy, ru hu, asIntOf, h0, h1, sizeOf, ri hj, add_at]
end
end Go.Proofs.YtmalghopogngoaaGreatDoor.MW
set_option linter.unusedVariables false
set_option linter.unusedSimpArgs false
namespace Go.Proofs.YtmalghopogngoaaGreatDoor.MW
open Go Go.RowKit
section
variable {P : Program} {N : Nat} {Q : Exit → Env → World → Prop} {e : Env} {w w0 : World} {ops : Array Oper} {rest : List Oper} {F : Foot} {G G' G0 : List Assn}
/-! ### loads -/
theorem m_load1 {T : TypeId} [One P T] {x : Operand} {b o : Nat} {v : Value} (hx : evo e x = some (.pointer (some ⟨b, o, none⟩))) (hc : w.cell? ⟨b, o, none⟩ = some v) : At P N e (.load T x) w v := fun a ha d ty pos af g => by
 simp only [execOp, ha.eval hx]
 simp [rl_load1 (P := P) (T := T) hc]
theorem m_loadA {T n : TypeId} [Agg P T n] {x : Operand} {b o : Nat} {g : Nat → Value} (hx : evo e x = some (.pointer (some ⟨b, o, none⟩))) (hc : ∀ i, i < n → w.cell? ⟨b, o + i, none⟩ = some (g i)) : At P N e (.load T x) w (.agg (mkA n g)) := fun a ha d ty pos af g' => by
 simp only [execOp, ha.eval hx]
 simp [rl_loadA (P := P) (T := T) hc]
theorem pt_cell {b T n : Nat} {f : Nat → Value} (hb : w.heap[b]? = some (.cells (mkA n f) T (0, 0))) (o : Nat) (ho : o < n) : w.cell? ⟨b, o, none⟩ = some (f o) := by simp [World.cell?, hb, mkA_get n f o ho]
/-- A load out of a block at hand. -/
theorem a_ld {T : TypeId} [One P T] {x : Operand} {b o T' n : Nat} {f : Nat → Value} (hs : St w0 F w G) (hx : evo e x = some (.pointer (some ⟨b, o, none⟩))) (hp : Pick G (pt b T' n f) G') (ho : Nat.blt o n = true) : At P N e (.load T x) w (f o) :=
 m_load1 hx (pt_cell (hs.cell hp) o (Nat.le_of_ble_eq_true ho))
theorem a_ldA {T m : TypeId} [Agg P T m] {x : Operand} {b o T' n : Nat} {f : Nat → Value} (hs : St w0 F w G) (hx : evo e x = some (.pointer (some ⟨b, o, none⟩))) (hp : Pick G (pt b T' n f) G') (ho : Nat.ble (o + m) n = true) : At P N e (.load T x) w (.agg (mkA m (sft f o))) :=
 m_loadA (n := m) hx fun i hi => pt_cell (hs.cell hp) (o + i) (Nat.lt_of_lt_of_le (Nat.add_lt_add_left hi o) (Nat.le_of_ble_eq_true ho))
/-! ### stores -/
theorem a_st {T : TypeId} [One P T] {x y : Operand} {b o T' n : Nat} {f : Nat → Value} {v : Value} (hs : St w0 F w G) (hx : evo e x = some (.pointer (some ⟨b, o, none⟩))) (hy : evo e y = some v) (hv : v.oneCell' = true)
  (hp : Put G (pt b T' n f) (pt b T' n (updC f o v)) G') (hpk : Pick G (pt b T' n f) G0) (ho : Nat.blt o n = true) : ∃ w', Wr P N e (.store T x y) w w' ∧ St w0 F w' G' := by
 have hb := hs.cell hpk
 have hr := rl_store1 (P := P) (T := T) hb (Nat.le_of_ble_eq_true ho) hv
 refine ⟨w.setCell ⟨b, o, none⟩ v, fun a ha d ty pos af g => ?_, hs.put hp rfl rfl rfl (by simp [World.setCell]) fun S1 h1 hl => ⟨S1, ⟨h1.1, setCell_block h1.2⟩, fun k hk => ⟨by simpa [World.setCell] using hl k hk, .inl hk⟩, fun k hk hn => Below.heap_setCell _ _ _ _ (fun e => hn ((h1.1 k).2 e))⟩⟩
 simp only [execOp, ha.eval hx, ha.eval hy]
 simp [hr]
theorem a_stA {T m : TypeId} [Agg P T m] {x y : Operand} {b o T' n : Nat} {f g : Nat → Value} (hs : St w0 F w G) (hx : evo e x = some (.pointer (some ⟨b, o, none⟩))) (hy : evo e y = some (.agg (mkA m g))) (hv : ∀ i, i < m → (g i).oneCell' = true)
  (hp : Put G (pt b T' n f) (pt b T' n (lay f o m g)) G') (hpk : Pick G (pt b T' n f) G0) (ho : Nat.ble (o + m) n = true) : ∃ w', Wr P N e (.store T x y) w w' ∧ St w0 F w' G' := by
 obtain ⟨w', hr, hblk, h1, h2, h3, h4, h5⟩ := rl_storeA (P := P) (T := T) (hs.cell hpk) (Nat.le_of_ble_eq_true ho) hv
 refine ⟨w', fun a ha d ty pos af g => ?_, hs.put hp h1 h2 h3 (by omega) fun S1 hS hl => ⟨S1, ⟨hS.1, hblk⟩, fun k hk => ⟨by rw [h4]; exact hl k hk, .inl hk⟩, fun k hk hn => h5 k (fun e => hn ((hS.1 k).2 e))⟩⟩
 simp only [execOp, ha.eval hx, ha.eval hy]
 simp [hr]
/-- The whole block anew. -/
theorem lay_all {n : Nat} {f g : Nat → Value} (i : Nat) (hi : i < n) : lay f 0 n g i = g i := by
 unfold lay
 have h1 : Nat.ble 0 i = true := Nat.ble_eq_true_of_le (Nat.zero_le _)
 have h2 : Nat.blt i (0 + n) = true := Nat.ble_eq_true_of_le (by omega)
 rw [h1, h2]
 rfl
theorem pt_congr {b T n : Nat} {f g : Nat → Value} (h : ∀ i, i < n → f i = g i) : pt b T n f = pt b T n g := by
 unfold pt
 simp only [mkA_congr h]
theorem a_stW {T n : TypeId} [Agg P T n] {x y : Operand} {b T' : Nat} {f g : Nat → Value} (hs : St w0 F w G) (hx : evo e x = some (.pointer (some ⟨b, 0, none⟩))) (hy : evo e y = some (.agg (mkA n g))) (hv : ∀ i, i < n → (g i).oneCell' = true)
  (hp : Put G (pt b T' n f) (pt b T' n g) G') (hpk : Pick G (pt b T' n f) G0) : ∃ w', Wr P N e (.store T x y) w w' ∧ St w0 F w' G' := by
 refine a_stA hs hx hy hv ?_ hpk (by simp)
 rw [pt_congr (f := lay f 0 n g) (g := g) fun i hi => lay_all i hi]
 exact hp
/-! ### new blocks -/
theorem a_alloc {T : TypeId} {z : List Value} [h : Zero P T z] (hs : St w0 F w G) : ∃ w', Mk P N e (.alloc T) w (.pointer (some ⟨w.heap.size, 0, none⟩)) w' ∧ St w0 F w' (pt w.heap.size T z.length (cl z) :: G) := by
 obtain ⟨i, v, hi, hz, hc⟩ := h.und
 have hcs : v.cells = mkA z.length (cl z) := by rw [mkA_cl, ← hc]
 refine ⟨w.alloc (.cells (mkA z.length (cl z)) T), fun a ha d ty pos af g => ?_, hs.alloc T _ _⟩
 have hzv : (zeroValue T).run P w = .ok v w := by simp [zeroValue, ri hi, hz]
 simp only [execOp, Instr.alloc, Sem.run_bind, hzv, Result.andThen_ok, newVar, newRow, hcs]
 rfl
theorem a_box {T n : TypeId} {x : Operand} {f : Nat → Value} (hs : St w0 F w G) (hx : evo e x = some (.agg (mkA n f))) : ∃ w', Mk P N e (.box T x) w (.pointer (some ⟨w.heap.size, 0, none⟩)) w' ∧ St w0 F w' (pt w.heap.size T n f :: G) := by
 refine ⟨w.alloc (.cells (mkA n f) T), fun a ha d ty pos af g => ?_, hs.alloc T _ _⟩
 simp only [execOp, ha.eval hx]
 rfl
theorem one_cl (v : Value) : (#[v] : Array Value) = mkA 1 (cl [v]) := (mkA_cl [v]).symm
/-! ### structs put together -/
theorem fill_lay (z : Nat → Value) (n : Nat) (off m : Nat) (g : Nat → Value) (h : off + m ≤ n) :
  (mkA m g).zipIdx.foldl (fun cs (c, j) => cs.setIfInBounds (off + j) c) (mkA n z) = mkA n (lay z off m g) := by
 have key : ∀ (l : List Value) (k : Nat) (c : Array Value), c.size = n →
   ((l.zipIdx k).foldl (fun cs x => cs.setIfInBounds (off + x.2) x.1) c).size = n ∧
   ∀ i, i < n → ((l.zipIdx k).foldl (fun cs x => cs.setIfInBounds (off + x.2) x.1) c)[i]? = if off + k ≤ i ∧ i < off + k + l.length then l[i - off - k]? else c[i]? := by
  intro l
  induction l with
  | nil => intro k c hc; exact ⟨hc, fun i hi => by rw [if_neg (by simp)]; rfl⟩
  | cons v r ih =>
   intro k c hc
   obtain ⟨h1, h2⟩ := ih (k + 1) (c.setIfInBounds (off + k) v) (by simpa using hc)
   refine ⟨h1, fun i hi => ?_⟩
   simp only [List.zipIdx_cons, List.foldl_cons]
   rw [h2 i hi]
   by_cases hk : i = off + k
   ·
    subst hk
    rw [if_neg (by omega), if_pos ⟨by omega, by simp⟩]
    simp [hc, hi, show off + k - off - k = 0 by omega]
   ·
    rw [Array.getElem?_setIfInBounds_ne (by omega)]
    by_cases hr : off + k ≤ i ∧ i < off + k + (v :: r).length
    ·
     simp only [List.length_cons] at hr
     rw [if_pos (by omega), if_pos (by simp only [List.length_cons]; omega), show i - off - k = (i - off - (k + 1)) + 1 by omega, List.getElem?_cons_succ]
    ·
     simp only [List.length_cons] at hr
     rw [if_neg (by omega), if_neg (by simp only [List.length_cons]; omega)]
 have hk := key (mkA m g).toList 0 (mkA n z) (mkA_size _ _)
 rw [← Array.foldl_toList, Array.toList_zipIdx]
 refine mkA_ext hk.1 fun i hi => ?_
 rw [hk.2 i hi]
 simp only [Array.length_toList, mkA_size, Nat.add_zero, Nat.sub_zero, Array.getElem?_toList]
 unfold lay
 by_cases hr : off ≤ i ∧ i < off + m
 ·
  have e1 : Nat.ble off i = true := Nat.ble_eq_true_of_le hr.1
  have e2 : Nat.blt i (off + m) = true := Nat.ble_eq_true_of_le hr.2
  rw [if_pos hr, e1, e2, mkA_get _ _ _ (by omega)]
  rfl
 ·
  rw [if_neg hr, mkA_get _ _ _ hi]
  have : (Nat.ble off i && Nat.blt i (off + m)) = false := by
   cases hb : (Nat.ble off i && Nat.blt i (off + m)) with
   | false => rfl
   | true =>
    rw [Bool.and_eq_true] at hb
    exact absurd ⟨Nat.le_of_ble_eq_true hb.1, Nat.le_of_ble_eq_true hb.2⟩ hr
  rw [this]
  rfl
theorem updC_lay (z : Nat → Value) (off : Nat) (v : Value) : lay z off 1 (cl [v]) = updC z off v := by
 funext i
 unfold lay updC
 by_cases hi : i = off
 ·
  subst hi
  have e1 : Nat.ble i i = true := Nat.ble_eq_true_of_le (Nat.le_refl _)
  have e2 : Nat.blt i (i + 1) = true := Nat.ble_eq_true_of_le (Nat.le_refl _)
  have e3 : Nat.beq i i = true := Nat.beq_refl i
  rw [e1, e2, e3, Nat.sub_self]
  rfl
 ·
  have e3 : Nat.beq i off = false := by
   cases hb : Nat.beq i off with
   | true => exact absurd (Nat.eq_of_beq_eq_true hb) hi
   | false => rfl
  have : (Nat.ble off i && Nat.blt i (off + 1)) = false := by
   cases hb : (Nat.ble off i && Nat.blt i (off + 1)) with
   | false => rfl
   | true =>
    rw [Bool.and_eq_true] at hb
    have h1 := Nat.le_of_ble_eq_true hb.1
    have h2 : i + 1 ≤ off + 1 := Nat.le_of_ble_eq_true hb.2
    omega
  rw [e3, this]
  rfl
/-- The parts of a struct, laid one by one. -/
inductive Fills (P : Program) (T n : Nat) (e : Env) : List (Nat × Operand) → (Nat → Value) → (Nat → Value) → Prop where
 | nil {z : Nat → Value} : Fills P T n e [] z z
 | one {i off : Nat} {x : Operand} {v : Value} {l : List (Nat × Operand)} {z z' : Nat → Value} [FieldAt P T i off 1] : evo e x = some v → v.oneCell' = true → Nat.blt off n = true → Fills P T n e l (updC z off v) z' → Fills P T n e ((i, x) :: l) z z'
 | agg {i off m : Nat} {x : Operand} {g : Nat → Value} {l : List (Nat × Operand)} {z z' : Nat → Value} [FieldAt P T i off m] : evo e x = some (.agg (mkA m g)) → Nat.ble (off + m) n = true → Fills P T n e l (lay z off m g) z' → Fills P T n e ((i, x) :: l) z z'
theorem fills_run {T n : Nat} {l : List (Nat × Operand)} {z z' : Nat → Value} (h : Fills P T n e l z z') {a : Act} (ha : Sh N e a) {fs : Array Field} (hu : P.underlying T = some (.struct fs)) (place : Nat → Option (Nat × Nat))
  (hpl : ∀ i f j, fs[i]? = some f → P.info? f.type = some j → place i = some (f.offset, j.size)) : Instr.fill place (mkA n z) (l.map fun (i, x) => (i, a.eval x)) = some (mkA n z') := by
 induction h with
 | nil => rfl
 | one hx hv ho _ ih =>
  rename_i i off x v l z z' hF hF2
  obtain ⟨fs', f, j, hu', hf, hj, hz, rfl, hsz⟩ := FieldAt.und hF
  rw [hu] at hu'
  obtain rfl : fs = fs' := by injection hu' with h; injection h
  simp only [List.map_cons, Instr.fill, hpl i f j hf hj, ha.eval hx, oneCell_cells hv, hsz, mkA_size]
  have hlt : f.offset < n := Nat.le_of_ble_eq_true ho
  rw [if_neg (by simp; omega)]
  have := fill_lay z n f.offset 1 (cl [v]) (by omega)
  rw [← one_cl, updC_lay] at this
  rw [this]
  exact ih
 | agg hx ho _ ih =>
  rename_i i off m x g l z z' hF hF2
  obtain ⟨fs', f, j, hu', hf, hj, hz, rfl, hsz⟩ := FieldAt.und hF
  rw [hu] at hu'
  obtain rfl : fs = fs' := by injection hu' with h; injection h
  have hlt : f.offset + m ≤ n := Nat.le_of_ble_eq_true ho
  simp only [List.map_cons, Instr.fill, hpl i f j hf hj, ha.eval hx, hsz, mkA_size, Value.cells]
  rw [if_neg (by simp; omega), fill_lay z n f.offset m g hlt]
  exact ih
theorem p_build {T : TypeId} {z : List Value} [hz : Zero P T z] {l : List (Nat × Operand)} {z' : Nat → Value} {fs : Array Field} (hu : P.underlying T = some (.struct fs)) (hall : (fs.all fun f => (P.info? f.type).isSome) = true) (h : Fills P T z.length e l (cl z) z') :
  Pu P N e (.build T l.toArray) (.agg (mkA z.length z')) := fun a ha w d ty pos af g => by
 obtain ⟨i, v, hi, hzv, hc⟩ := hz.und
 have hcs : v.cells = mkA z.length (cl z) := by rw [mkA_cl, ← hc]
 have hzr : (zeroValue T).run P w = .ok v w := by simp [zeroValue, ri hi, hzv]
 have hm : (fs.mapM fun f => (do pure (f.offset, ← sizeOf f.type) : Sem (Nat × Nat))).run P w = .ok (fs.map fun f => (f.offset, ((P.info? f.type).getD default).size)) w := by
  have key : ∀ l : List Field, (l.all fun f => (P.info? f.type).isSome) = true → (l.mapM fun f => (do pure (f.offset, ← sizeOf f.type) : Sem (Nat × Nat))).run P w = .ok (l.map fun f => (f.offset, ((P.info? f.type).getD default).size)) w := by
   intro l
   induction l with
   | nil => intro _; simp
   | cons f r ih =>
    intro hl
    rw [List.all_cons, Bool.and_eq_true] at hl
    obtain ⟨j, hj⟩ := Option.isSome_iff_exists.1 hl.1
    have ih' := ih hl.2
    simp only [List.mapM_cons, Sem.run_bind, sizeOf, ri hj, Result.andThen_ok, Sem.run_pure] at ih' ⊢
    rw [ih']
    simp [hj]
  have hk := key fs.toList (by simpa using hall)
  rw [Array.mapM_eq_mapM_toList]
  simp only [Sem.run_map, hk, Result.andThen_ok]
  rw [← List.map_toArray, Array.toArray_toList]
 simp only [execOp]
 have hfr := fills_run h ha hu (fun i => (fs.map fun f => (f.offset, ((P.info? f.type).getD default).size))[i]?) (fun i f j hf hj => by simp [hf, hj])
 have hp : (l.toArray.map fun (i, x) => (i, a.eval x)).toList = l.map fun (i, x) => (i, a.eval x) := by simp
 simp only [Instr.build, Sem.run_bind, hzr, Result.andThen_ok, ru hu, hcs, hm, hp, hfr]
 rfl
end
end Go.Proofs.YtmalghopogngoaaGreatDoor.MW
set_option linter.unusedVariables false
set_option linter.unusedSimpArgs false
namespace Go.Proofs.YtmalghopogngoaaGreatDoor.MW
open Go Go.RowKit
section
variable {P : Program} {N : Nat} {Q : Exit → Env → World → Prop} {e : Env} {w w0 : World} {ops : Array Oper} {rest : List Oper} {F : Foot} {G G' G0 : List Assn}
/-! ### the whole function -/
def argE : List Value → Nat → Env
 | [], _ => emp
 | v :: r, i => upd (argE r (i + 1)) i v
theorem argE_get (l : List Value) : ∀ (k t : Nat) (v : Value), argE l k t = some v → k ≤ t ∧ l[t - k]? = some v := by
 induction l with
 | nil => intro k t v h; cases h
 | cons u r ih =>
  intro k t v h
  unfold argE upd at h
  cases hb : Nat.beq t k with
  | true =>
   rw [hb] at h
   obtain rfl := Nat.eq_of_beq_eq_true hb
   simpa using h
  | false =>
   rw [hb] at h
   obtain ⟨h1, h2⟩ := ih (k + 1) t v h
   refine ⟨by omega, ?_⟩
   rw [show t - k = (t - (k + 1)) + 1 by omega, List.getElem?_cons_succ]
   exact h2
def Qf (P : Program) (N : Nat) (fn : Func) (R : Value → World → Prop) : Exit → Env → World → Prop
 | .normal, e, w | .ret, e, w => ∃ v, (∀ a, Sh N e a → (results fn a.tmps).run P w = .ok v w) ∧ R v w
 | _, _, _ => False
theorem calls_W {f : FuncId} {fn : Func} {c : Code} {args : List Value} {R : Value → World → Prop} (hf : P.funcs[f]? = some fn) (hb : fn.body = some c) (hN : fn.ntmps = N) (hle : Nat.ble args.length N = true)
  (h : W P N c (Qf P N fn R) (argE args 0) w) : CallsR P f args.toArray w R := by
 have hle' := Nat.le_of_ble_eq_true hle
 refine calls_of_wp hf hb (wp_mono (h _ ⟨by simp [hN]; omega, rfl, fun t v ht => ?_⟩) fun x a' w' ⟨e', s, q⟩ => ?_)
 ·
  obtain ⟨_, h2⟩ := argE_get args 0 t v ht
  have hlt : t < args.length := (List.getElem?_eq_some_iff.1 h2).1
  rw [Array.getD_eq_getD_getElem?, Array.getElem?_append_left (by simpa using hlt)]
  rw [Nat.sub_zero] at h2
  simp [h2]
 ·
  cases x with
  | normal => obtain ⟨v, hr, hR⟩ := q; exact ⟨s.defers, v, hr a' s, v, rfl, hR⟩
  | ret => obtain ⟨v, hr, hR⟩ := q; exact ⟨s.defers, v, hr a' s, v, rfl, hR⟩
  | exit i => exact q.elim
  | goto l => exact q.elim
  | panic ch => exact q.elim
  | outgrown => exact q.elim
theorem ret_tmp {fn : Func} {R : Value → World → Prop} {r : Nat} {v : Value} (hr : fn.results = #[.tmp r]) (hv : e r = some v) (h : R v w) : Qf P N fn R .ret e w :=
 ⟨v, fun a ha => by rw [results_tmp hr, ha.get _ _ hv], h⟩
theorem ret_none {fn : Func} {R : Value → World → Prop} (hr : fn.results = #[]) (h : R (.tuple #[]) w) : Qf P N fn R .ret e w :=
 ⟨.tuple #[], fun a ha => results_none hr _ _ _, h⟩
theorem end_none {fn : Func} {R : Value → World → Prop} (hr : fn.results = #[]) (h : R (.tuple #[]) w) : Qf P N fn R .normal e w :=
 ⟨.tuple #[], fun a ha => results_none hr _ _ _, h⟩
theorem ret_tmp2 {fn : Func} {R : Value → World → Prop} {r s : Nat} {u v : Value} (hr : fn.results = #[.tmp r, .tmp s]) (hu : e r = some u) (hv : e s = some v) (h : R (.tuple #[u, v]) w) : Qf P N fn R .ret e w :=
 ⟨.tuple #[u, v], fun a ha => by rw [results_tmp2 hr, ha.get _ _ hu, ha.get _ _ hv], h⟩
theorem ret_cell {fn : Func} {R : Value → World → Prop} {r T n b : Nat} {T' : TypeId} {f : Nat → Value} [hT : Agg P T n] (hr : fn.results = #[.cell r T]) (hv : e r = some (.pointer (some ⟨b, 0, none⟩))) (hs : St w0 F w G) (hp : Pick G (pt b T' n f) G0)
  (h : R (.agg (mkA n f)) w) : Qf P N fn R .ret e w := by
 refine ⟨.agg (mkA n f), fun a ha => ?_, h⟩
 have hl := rl_loadA (P := P) (w := w) (T := T) (b := b) (o := 0) (g := f) fun i hi => by rw [Nat.zero_add]; exact pt_cell (hs.cell hp) i hi
 simp only [Instr.loadAt, Instr.sureAddr, Sem.run_bind, Sem.run_pure, Result.andThen_ok] at hl
 have hg := ha.get _ _ hv
 rw [Array.getD_eq_getD_getElem?] at hg
 simp [results, hr, hg, asAddr, hl]
/-! ### calls -/
inductive Args (e : Env) : List Operand → List Value → Prop where
 | nil : Args e [] []
 | cons {x : Operand} {v : Value} {xs : List Operand} {vs : List Value} : evo e x = some v → Args e xs vs → Args e (x :: xs) (v :: vs)
theorem Args.map {xs : List Operand} {vs : List Value} (h : Args e xs vs) {a : Act} (ha : Sh N e a) : xs.map a.eval = vs := by
 induction h with
 | nil => rfl
 | cons hx _ ih => rw [List.map_cons, ha.eval hx, ih]
theorem call_run {f : FuncId} [hF : Fun P f] {xs : List Operand} {vs : List Value} {tys : Array TypeId} (h : Args e xs vs) {a : Act} (ha : Sh N e a) (w : World) (d : Option Tmp) (ty : TypeId) (pos : String) (af : Array Edge) (g : Option (Nat × Bool)) :
  (execOp a.eval ⟨d, .call ⟨.value (.func f), xs.toArray, tys⟩, ty, pos, af, g⟩).run P w = .ok (.enter f vs.toArray) w := by
 obtain ⟨fn, hf, hn, hb⟩ := hF.out
 have hm := h.map ha
 have hb' : fn.body ≠ none := by intro h; simp [h] at hb
 simp only [execOp, resolve, Act.eval, Deferred.ofValue, List.map_toArray]
 rw [show List.map a.eval xs = vs from hm]
 simp [invoke, callFunc, hf, hn, hb']
theorem s_call {f : FuncId} [Fun P f] {d : Nat} {xs : List Operand} {vs : List Value} {tys : Array TypeId} {ty : TypeId} {pos : String} {af : Array Edge} {R : Value → World → Prop} (hc : CallsR P f vs.toArray w R) (ha : Args e xs vs) (hN : Nat.blt d N = true)
  (h : ∀ v w', R v w' → WL P ops N rest Q (upd e d v) w') : WL P ops N (⟨some d, .call ⟨.value (.func f), xs.toArray, tys⟩, ty, pos, af, none⟩ :: rest) Q e w :=
 s_enter rfl rfl hN (fun a hs => call_run ha hs w _ _ _ _ _) hc h
/-! a call that is handed the first assertion -/
/-! ### slices -/
/-- A slice of a call's own: n elements of sz cells, of the element type T. -/
def row (v : Value) (T sz n : Nat) (f : Nat → Value) : Assn where
 on w S := (v = .slice none 0 0 ∧ n = 0 ∧ ∀ b, ¬ S b) ∨
  ∃ g cap cur, v = .slice (some ⟨g, 0, none⟩) n cap ∧ (∀ x, S x ↔ x = g) ∧ w.heap[g]? = some (.cells cur T (0, 0)) ∧ n ≤ cap ∧ cap ≤ maxLen ∧ cur.size = cap * sz ∧ ∀ i, i < n * sz → cur[i]? = some (f i)
 loc := fun w w' S h hk => by
  rcases h with h | ⟨g, cap, cur, h1, h2, h3, h4⟩
  ·
   exact .inl h
  ·
   exact .inr ⟨g, cap, cur, h1, h2, (hk g ((h2 g).2 rfl)).trans h3, h4⟩
theorem row_owns {v : Value} {T sz n : Nat} {f : Nat → Value} {S : Foot} (h : (row v T sz n f).on w S) : w.ownsRow 0 T sz v n ((List.range (n * sz)).map f) := by
 refine ⟨by simp, ?_⟩
 rcases h with ⟨h1, h2, _⟩ | ⟨g, cap, cur, h1, h2, h3, h4, h5, h6, h7⟩
 ·
  exact .inl ⟨h1, h2⟩
 ·
  refine .inr ⟨g, cap, cur, h1, Nat.zero_le _, h3, h4, h5, h6, ?_⟩
  have hle : n * sz ≤ cur.size := by rw [h6]; exact Nat.mul_le_mul_right _ h4
  apply List.ext_getElem?
  intro i
  rw [List.getElem?_take]
  split
  ·
   rename_i hi
   rw [Array.getElem?_toList, h7 i hi]
   simp [hi]
  ·
   rename_i hi
   rw [List.getElem?_eq_none (by simp; omega)]
theorem owns_row {v : Value} {T sz n : Nat} {f : Nat → Value} {xs : List Value} (h : w.ownsRow 0 T sz v n xs) (hx : ∀ i, i < n * sz → xs[i]? = some (f i)) : ∃ S, (row v T sz n f).on w S ∧ (∀ b, S b ↔ v.ownBlock = some b) ∧ ∀ b, S b → b < w.heap.size := by
 rcases h.2 with ⟨h1, h2⟩ | ⟨g, cap, cur, h1, h2, h3, h4, h5, h6, h7⟩
 ·
  subst h1
  exact ⟨fun _ => False, .inl ⟨rfl, h2, fun _ => id⟩, fun b => by simp [Value.ownBlock], fun _ => False.elim⟩
 ·
  refine ⟨fun x => x = g, .inr ⟨g, cap, cur, h1, fun _ => Iff.rfl, h3, h4, h5, h6, fun i hi => ?_⟩, fun b => by simp [h1, Value.ownBlock, eq_comm], fun b hb => by subst hb; exact (Array.getElem?_eq_some_iff.1 h3).1⟩
  have := hx i hi
  rw [← h7, List.getElem?_take, if_pos hi, Array.getElem?_toList] at this
  exact this
theorem St.rowNil (h : St w0 F w G) (T sz : Nat) (f : Nat → Value) : St w0 F w (row (.slice none 0 0) T sz 0 f :: G) := by
 obtain ⟨S, hs, hF⟩ := h.sat
 exact ⟨h.keep, S, .cons (S1 := fun _ => False) (.inl ⟨rfl, rfl, fun _ => id⟩) (fun _ => False.elim) hs (fun _ => False.elim) (fun b => ⟨.inr, fun h => h.elim False.elim id⟩), hF⟩
class Elt (P : Program) (T : TypeId) (el sz bytes : outParam Nat) : Prop where
 out : ∃ i z, P.underlying T = some (.slice el) ∧ P.info? el = some i ∧ i.zero = some z ∧ i.size = sz ∧ i.bytes = bytes ∧ z.cells.size = sz ∧ 0 < sz
def cat (f : Nat → Value) (k : Nat) (g : Nat → Value) : Nat → Value := fun i => bif Nat.blt i k then f i else g (i - k)
/-- append of m elements that can be read. -/
theorem a_appendF {T el sz bytes nb m c : Nat} [hE : Elt P T el sz bytes] {x y : Operand} {v : Value} {n : Nat} {f g : Nat → Value} (hs : St w0 F w (row v el sz n f :: G)) (hx : evo e x = some v) (hy : evo e y = some (.slice (some ⟨nb, 0, none⟩) m c))
  (hg : ∀ j, j < m * sz → w.cell? ⟨nb, j, none⟩ = some (g j)) (h1 : ∀ i, i < m * sz → (g i).oneCell' = true) (hlen : n + m ≤ 9223372036854775807) (hby : (n + m) * bytes ≤ 140737488355328) :
  ∃ v' w', Mk P N e (.call ⟨.builtin .append, #[x, y], #[T, T]⟩) w v' w' ∧ St w0 F w' (row v' el sz (n + m) (cat f (n * sz) g) :: G) := by
 obtain ⟨i, z, hu, hi, hz, hsz, hbt, hzs, h0⟩ := hE.out
 obtain ⟨S, hrow⟩ := hs.pick .head
 have hown := row_owns hrow
 have hnew : ∀ j u, ((List.range (m * sz)).map g)[j]? = some u → w.cell? ((⟨nb, 0, none⟩ : Addr).add j) = some u := fun j u hj => by
  have hlt : j < m * sz := by
   have := (List.getElem?_eq_some_iff.1 hj).1
   simpa using this
  rw [add_at, Nat.zero_add, hg j hlt]
  simp [hlt] at hj
  rw [hj]
 have hone : ∀ u ∈ (List.range (m * sz)).map g, u.oneCell' = true := fun u hu' => by
  rw [List.mem_map] at hu'
  obtain ⟨j, hj, rfl⟩ := hu'
  exact h1 j (List.mem_range.1 hj)
 obtain ⟨v', w', hr, ho', hg', _⟩ := run_append_own (P := P) w 0 T T el i z sz bytes hu hi hz hsz hbt hzs h0 v n _ hown ⟨nb, 0, none⟩ m c ((List.range (m * sz)).map g) (by simp)
  hnew hone (by unfold maxLen; omega) hby (Nat.zero_le _)
 refine ⟨v', w', fun a ha d ty pos af gd => ?_, ?_⟩
 ·
  have hr' : (Builtin.append_ #[T, T] ty #[v, .slice (some ⟨nb, 0, none⟩) m c]).run P w = .ok v' w' := by
   have := hr
   simp only [Builtin.append_] at this ⊢
   exact this
  simp only [execOp, resolve, invoke, builtin, Sem.run_bind, Sem.run_pure, Result.andThen_ok, List.map_toArray, List.map_cons, List.map_nil, ha.eval hx, ha.eval hy, hr']
 ·
  refine hs.put .head hg'.os hg'.tape hg'.output hg'.size fun S1 hS1 hl => ?_
  obtain ⟨S', hS', hb', hlt'⟩ := owns_row (f := cat f (n * sz) g) ho' fun j hj => by
   unfold cat
   by_cases hjn : j < n * sz
   ·
    have e1 : Nat.blt j (n * sz) = true := Nat.ble_eq_true_of_le hjn
    rw [List.getElem?_append_left (by simpa using hjn), e1]
    simp [hjn]
   ·
    have e1 : Nat.blt j (n * sz) = false := by
     cases hb : Nat.blt j (n * sz) with
     | true => exact absurd (Nat.le_of_ble_eq_true hb) hjn
     | false => rfl
    rw [Nat.add_mul] at hj
    rw [List.getElem?_append_right (by simpa using hjn), e1]
    simp only [List.length_map, List.length_range, List.getElem?_map, List.getElem?_range, cond_false]
    rw [List.getElem?_range (by omega)]
    rfl
  have hvb : ∀ b, v.ownBlock = some b → S1 b := by
   intro b hb
   rcases hS1 with ⟨rfl, _⟩ | ⟨g', cap, cur, rfl, h2, _⟩
   ·
    simp [Value.ownBlock] at hb
   ·
    simp [Value.ownBlock] at hb
    exact (h2 b).2 hb.symm
  refine ⟨S', hS', fun b hb => ⟨hlt' b hb, ?_⟩, fun b hb hn => hg'.block b hb (fun h => hn (hvb b h.symm))⟩
  rcases hS1 with ⟨rfl, rfl, _⟩ | ⟨g', cap, cur, rfl, h2, h3, h4, h5, h6, h7⟩
  ·
   refine .inr ?_
   obtain ⟨v2, w2, hr2, ho2, _⟩ := run_append_own (P := P) w w.heap.size T T el i z sz bytes hu hi hz hsz hbt hzs h0 (.slice none 0 0) 0 [] (World.ownsRow_nil w _ _ _) ⟨nb, 0, none⟩ m c ((List.range (m * sz)).map g) (by simp) hnew hone (by unfold maxLen; omega) hby (Nat.le_refl _)
   have he := hr.symm.trans hr2
   injection he with he1 he2
   subst he1
   exact (ho2.lt b ((hb' b).1 hb)).1
  ·
   by_cases hroom : n + m ≤ cap
   ·
    refine .inl ((h2 b).2 ?_)
    have hr2 := run_append_room (P := P) w T T el i hu hi g' n cap cur h3 ⟨nb, 0, none⟩ m c ((List.range (m * sz)).map g) (by simp [hsz]) hnew hone hroom (by rw [hsz, h6]; simp only [List.length_map, List.length_range, ← Nat.add_mul]; exact Nat.mul_le_mul_right _ hroom)
    have he := hr.symm.trans hr2
    injection he with he1 he2
    subst he1
    have := (hb' b).1 hb
    simp [Value.ownBlock] at this
    exact this.symm
   ·
    refine .inr ?_
    have hr2 := run_append_grow (P := P) w T T el i z hu hi hz ⟨g', 0, none⟩ n cap ((List.range (n * sz)).map f) (by simp [hsz]) (hown.cells (g := g') rfl) ⟨nb, 0, none⟩ m c ((List.range (m * sz)).map g) (by simp [hsz]) hnew (by omega) (by omega) (growslice_fits (by omega) (by rw [hbt]; exact hby))
    have he := hr.symm.trans hr2
    injection he with he1 he2
    subst he1
    have := (hb' b).1 hb
    simp [Value.ownBlock] at this
    omega
/-- append of m elements that lie at hand. -/
theorem a_append {T el sz bytes nb nT m c k : Nat} [hE : Elt P T el sz bytes] {x y : Operand} {v : Value} {n : Nat} {f g : Nat → Value} (hs : St w0 F w (row v el sz n f :: G)) (hx : evo e x = some v) (hy : evo e y = some (.slice (some ⟨nb, 0, none⟩) m c))
  (hp : Pick G (pt nb nT k g) G0) (hk : k = m * sz) (h1 : ∀ i, i < k → (g i).oneCell' = true) (hlen : n + m ≤ 9223372036854775807) (hby : (n + m) * bytes ≤ 140737488355328) :
  ∃ v' w', Mk P N e (.call ⟨.builtin .append, #[x, y], #[T, T]⟩) w v' w' ∧ St w0 F w' (row v' el sz (n + m) (cat f (n * sz) g) :: G) := by
 subst hk
 exact a_appendF hs hx hy (fun j hj => pt_cell (hs.cell (.tail hp)) j hj) h1 hlen hby
/-- append of nothing. -/
theorem a_append0 {T el sz bytes m c : Nat} [hE : Elt P T el sz bytes] {x y : Operand} {v : Value} {n : Nat} {f : Nat → Value} (hs : St w0 F w (row v el sz n f :: G)) (hx : evo e x = some v) (hy : evo e y = some (.slice none 0 c)) :
  Mk P N e (.call ⟨.builtin .append, #[x, y], #[T, T]⟩) w v w := by
 obtain ⟨i, z, hu, hi, hz, hsz, hbt, hzs, h0⟩ := hE.out
 obtain ⟨S, hrow⟩ := hs.pick .head
 intro a ha d ty pos af gd
 have hr : (Builtin.append_ #[T, T] ty #[v, .slice none 0 c]).run P w = .ok v w := by
  rcases hrow with ⟨rfl, rfl, _⟩ | ⟨g', cap, cur, rfl, h2, h3, h4, h5, h6, h7⟩
  ·
   simp [Builtin.append_, run_underlying hu, sizeOf, typeInfo, hi, Builtin.lenOf, Builtin.firstCells, loadCells, loadCellsFrom]
  ·
   simp [Builtin.append_, run_underlying hu, sizeOf, typeInfo, hi, Builtin.lenOf, Builtin.firstCells, h4, storeCells]
 simp only [execOp, resolve, invoke, builtin, Sem.run_bind, Sem.run_pure, Result.andThen_ok, List.map_toArray, List.map_cons, List.map_nil, ha.eval hx, ha.eval hy, hr]
/-- Other words for the same cells. -/
theorem row_congr {v : Value} {T sz n : Nat} {f g : Nat → Value} (h : ∀ i, i < n * sz → f i = g i) {w : World} {S : Foot} (hr : (row v T sz n f).on w S) : (row v T sz n g).on w S := by
 rcases hr with h1 | ⟨g', cap, cur, h1, h2, h3, h4, h5, h6, h7⟩
 ·
  exact .inl h1
 ·
  exact .inr ⟨g', cap, cur, h1, h2, h3, h4, h5, h6, fun i hi => by rw [h7 i hi, h i hi]⟩
theorem row_cell {v : Value} {T sz n : Nat} {f : Nat → Value} {S : Foot} (hr : (row v T sz n f).on w S) (hn : 0 < n) : ∃ g cap, v = .slice (some ⟨g, 0, none⟩) n cap ∧ ∀ j, j < n * sz → w.cell? ⟨g, j, none⟩ = some (f j) := by
 rcases hr with ⟨_, h, _⟩ | ⟨g', cap, cur, h1, h2, h3, h4, h5, h6, h7⟩
 ·
  omega
 ·
  exact ⟨g', cap, h1, fun j hj => by simp [World.cell?, h3, h7 j hj]⟩
end
end Go.Proofs.YtmalghopogngoaaGreatDoor.MW
set_option linter.unusedVariables false
set_option linter.unusedSimpArgs false
namespace Go.Proofs.YtmalghopogngoaaGreatDoor.MW
open Go Go.RowKit
/-- From here on, whatever order is drawn; S holds behind every operation. -/
def WH (P : Program) (ops : Array Oper) (N : Nat) (S : World → Prop) (fuel : Nat) (ls : Array Bool) (Q : Exit → Env → World → Prop) (e : Env) (w : World) : Prop :=
 ∀ a, Sh N e a → wpAnyH P .any ops (fun x a' w' => ∃ e', Sh N e' a' ∧ Q x e' w') S fuel ls a w
def NoPanic (Q : Exit → Env → World → Prop) : Prop := ∀ c e w, ¬ Q (.panic c) e w
/-- Number i may be taken first, with what is listed behind it. -/
def takeB (ops : Array Oper) (ls : Array Bool) (i : Nat) (ls' : Array Bool) : Bool :=
 Region.noSelect ops && Region.free .any ops ls i && (Region.ready .any ops ls).contains i && (ls.setIfInBounds i true == ls')
/-- Those that may come up are just these. -/
def readyB (ops : Array Oper) (ls : Array Bool) (rs : List Nat) : Bool := Region.ready .any ops ls == rs
def oneB (ops : Array Oper) (ls : Array Bool) (i : Nat) (ls' : Array Bool) : Bool := readyB ops ls [i] && (ls.setIfInBounds i true == ls')
section
variable {P : Program} {N : Nat} {Q : Exit → Env → World → Prop} {e : Env} {w : World} {ops : Array Oper} {S : World → Prop} {fuel : Nat} {ls ls' : Array Bool}
theorem h_start {id : Nat} (hm : P.follows .mixedOrders = true) {n : Nat} (hn : (ops.size == n && (Array.replicate n false == ls)) = true) (h : WH P ops N S n ls Q e w.drew) : W P N (.region id ops true) Q e w := fun a ha => by
 rw [Bool.and_eq_true, beq_iff_eq, beq_iff_eq] at hn
 obtain ⟨rfl, rfl⟩ := hn
 exact wp_region_held hm (h a ha)
theorem h_done (hr : readyB ops ls [] = true) (h : Q .normal e w) : WH P ops N S fuel ls Q e w := fun a ha => wpAnyH_done (beq_iff_eq.1 hr) ⟨e, ha, h⟩ fuel
theorem h_take (i : Nat) {d : Nat} {op : Op} {ty : TypeId} {pos : String} {af : Array Edge} {v : Value} (hi : ops[i]? = some ⟨some d, op, ty, pos, af, none⟩) (ht : takeB ops ls i ls' = true) (hQ : NoPanic Q) (hd : Nat.blt d N = true)
  (hS : S w) (hp : ∀ w, S w → At P N e op w v) (h : WH P ops N S fuel ls' Q (upd e d v) w) : WH P ops N S (fuel + 1) ls Q e w := fun a ha => by
 simp only [takeB, Bool.and_eq_true, beq_iff_eq] at ht
 obtain ⟨⟨⟨h1, h2⟩, h3⟩, rfl⟩ := ht
 refine wpAnyH_take hi h1 h2 h3 ?_ (v := v) (.inl ⟨by simp [Region.wanted], fun w hw => hp w hw a ha _ _ _ _ _⟩) hS (h _ (ha.put hd v))
 rintro c a w ⟨e', _, q⟩
 exact absurd q (hQ _ _ _)
theorem h_pu (i : Nat) {d : Nat} {op : Op} {ty : TypeId} {pos : String} {af : Array Edge} {v : Value} (hi : ops[i]? = some ⟨some d, op, ty, pos, af, none⟩) (ht : takeB ops ls i ls' = true) (hQ : NoPanic Q) (hd : Nat.blt d N = true)
  (hS : S w) (hp : Pu P N e op v) (h : WH P ops N S fuel ls' Q (upd e d v) w) : WH P ops N S (fuel + 1) ls Q e w :=
 h_take i hi ht hQ hd hS (fun w _ => hp.at w) h
/-- With a guard that holds. -/
theorem h_puG (i : Nat) {d j dj : Nat} {b : Bool} {op : Op} {ty : TypeId} {pos : String} {af : Array Edge} {v : Value} (hi : ops[i]? = some ⟨some d, op, ty, pos, af, some (j, b)⟩) (ht : takeB ops ls i ls' = true) (hQ : NoPanic Q) (hd : Nat.blt d N = true)
  (hj : (ops[j]?).bind (·.dst) = some dj) (hN : Nat.blt dj N = true) (hv : e dj = some (.bool b)) (hS : S w) (hp : ∀ w, S w → At P N e op w v) (h : WH P ops N S fuel ls' Q (upd e d v) w) : WH P ops N S (fuel + 1) ls Q e w := fun a ha => by
 simp only [takeB, Bool.and_eq_true, beq_iff_eq] at ht
 obtain ⟨⟨⟨h1, h2⟩, h3⟩, rfl⟩ := ht
 refine wpAnyH_take hi h1 h2 h3 ?_ (v := v) (.inl ⟨by simp [Region.wanted, yielded_of ha hj hN hv], fun w hw => hp w hw a ha _ _ _ _ _⟩) hS (h _ (ha.put hd v))
 rintro c a w ⟨e', _, q⟩
 exact absurd q (hQ _ _ _)
theorem wpOp_of_list {i : Nat} {o : Oper} {K : Act → World → Prop} {Q' Q'' : Exit → Act → World → Prop} {a : Act} {w : World} (hi : ops[i]? = some o) (h : wpList P ops Q'' [o] a w)
  (hn : ∀ a w, Q'' .normal a w → K a w) (hx : ∀ x a w, x ≠ .normal → Q'' x a w → Q' x a w) : wpOp P ops Q' i K a w := by
 have hlet : LetsOut Q'' → LetsOut Q' := fun ⟨a, w, hl⟩ => ⟨a, w, hx _ a w (by simp) hl⟩
 unfold wpOp
 simp only [hi]
 simp only [wpList] at h
 split
 ·
  rename_i hw
  rw [if_pos hw] at h
  refine h.imp (fun h => ?_) (fun h => ⟨h.1, hlet h.2⟩)
  unfold Oper.wp at h ⊢
  generalize (execOp a.eval o).run P w = r at *
  cases r with
  | ok n w' =>
   cases n <;> simp only [Oper.upon] at h ⊢ <;>
    first
     | exact hn _ _ h
     | exact Calls.mono h (fun e w'' he => by
       cases e
       ·
        exact hn _ _ he
       ·
        exact hx _ _ _ (by simp) he
       ·
        exact hlet he)
     | exact Rows.mono h (fun _ _ he => hn _ _ he)
  | halt x w' =>
   cases x <;> simp only [Oper.upon] at h ⊢ <;> exact hx _ _ _ (by simp) h
 ·
  rename_i hw
  rw [if_neg hw] at h
  exact hn _ _ h
theorem h_any {i : Nat} {o : Oper} (hi : ops[i]? = some o) {a : Act} (ha : Sh N e a)
  (h : WL P ops N [o] (Th (fun e' w' => S w' ∧ WH P ops N S fuel ls' Q e' w') Q) e w) : wpOp P ops (fun x a' w' => ∃ e', Sh N e' a' ∧ Q x e' w') i (fun a' w' => S w' ∧ wpAnyH P .any ops (fun x a' w' => ∃ e', Sh N e' a' ∧ Q x e' w') S fuel ls' a' w') a w := by
 refine wpOp_of_list hi (h a ha) ?_ ?_
 ·
  rintro a w ⟨e', s, hS, hk⟩
  exact ⟨hS, hk a s⟩
 ·
  rintro x a w hx ⟨e', s, q⟩
  cases x with
  | normal => exact absurd rfl hx
  | exit id => exact ⟨e', s, q⟩
  | goto l => exact ⟨e', s, q⟩
  | ret => exact ⟨e', s, q⟩
  | panic ch => exact ⟨e', s, q⟩
  | outgrown => exact ⟨e', s, q⟩
/-- The only one that may come up. -/
theorem h_one (i : Nat) {o : Oper} (hi : ops[i]? = some o) (hr : oneB ops ls i ls' = true)
  (h : WL P ops N [o] (Th (fun e' w' => S w' ∧ WH P ops N S fuel ls' Q e' w') Q) e w) : WH P ops N S (fuel + 1) ls Q e w := fun a ha => by
 simp only [oneB, readyB, Bool.and_eq_true, beq_iff_eq] at hr
 obtain ⟨h1, rfl⟩ := hr
 refine wpAnyH_all h1 (by simp) fun j hj => ?_
 rw [List.mem_singleton] at hj
 subst hj
 exact h_any hi ha h
def twoB (ops : Array Oper) (ls : Array Bool) (i j : Nat) (ls' ls'' : Array Bool) : Bool := readyB ops ls [i, j] && (ls.setIfInBounds i true == ls') && (ls.setIfInBounds j true == ls'')
/-- One of two comes up. -/
theorem h_two (i j : Nat) {ls'' : Array Bool} {o o' : Oper} (hi : ops[i]? = some o) (hj : ops[j]? = some o') (hr : twoB ops ls i j ls' ls'' = true)
  (h : WL P ops N [o] (Th (fun e' w' => S w' ∧ WH P ops N S fuel ls' Q e' w') Q) e w)
  (h' : WL P ops N [o'] (Th (fun e' w' => S w' ∧ WH P ops N S fuel ls'' Q e' w') Q) e w) : WH P ops N S (fuel + 1) ls Q e w := fun a ha => by
 simp only [twoB, readyB, Bool.and_eq_true, beq_iff_eq] at hr
 obtain ⟨⟨h1, rfl⟩, rfl⟩ := hr
 refine wpAnyH_all h1 (by simp) fun k hk => ?_
 simp only [List.mem_cons, List.not_mem_nil, or_false] at hk
 rcases hk with rfl | rfl
 ·
  exact h_any hi ha h
 ·
  exact h_any hj ha h'
end
end Go.Proofs.YtmalghopogngoaaGreatDoor.MW
set_option linter.unusedVariables false
set_option linter.unusedSimpArgs false
namespace Go.Proofs.YtmalghopogngoaaGreatDoor.MW
open Go Go.RowKit
section
variable {P : Program} {N : Nat} {e : Env} {w w0 : World} {F : Foot} {G G' G0 : List Assn}
/-! texts -/
theorem p_addS {T U : TypeId} {x y : Operand} {s t : ByteArray} (hx : evo e x = some (.string s)) (hy : evo e y = some (.string t)) (hl : s.size + t.size ≤ 9223372036854775807) : Pu P N e (.binOp .add T x y U) (.string (s ++ t)) := fun a ha w d ty pos af g => by
 have : ¬ (9223372036854775807 < (s.size : Int) + (t.size : Int)) := by omega
 have hm : IntKind.i64.max = 9223372036854775807 := by decide
 simp [execOp, ha.eval hx, ha.eval hy, eqGuard, binOp, Op.stringOp, hm, this]
theorem p_subS {T : TypeId} {x y z : Operand} {s : ByteArray} {j k : IntKind} {l h : Int} (hu : P.underlying T = some .string) (hx : evo e x = some (.string s)) (hy : evo e y = some (.int j l)) (hz : evo e z = some (.int k h)) (h0 : 0 ≤ l) (h1 : l ≤ h) (h2 : h ≤ s.size) :
  Pu P N e (.slice T x (some y) (some z) none) (.string (s.extract l.toNat h.toNat)) := fun a ha w d ty pos af g => by
 have h3 : 0 ≤ h := by omega
 have h4 : l ≤ (h.toNat : Int) := by omega
 simp [execOp, Instr.sliceAt, Instr.slice, Instr.sliceBounds, Instr.sliceBound, asIntOf, ha.eval hx, ha.eval hy, ha.eval hz, ru hu, h0, h2, h3, h1]
 intro hh
 omega
theorem p_subLo {T : TypeId} {x y : Operand} {s : ByteArray} {j : IntKind} {l : Int} (hu : P.underlying T = some .string) (hx : evo e x = some (.string s)) (hy : evo e y = some (.int j l)) (h0 : 0 ≤ l) (h1 : l ≤ s.size) :
  Pu P N e (.slice T x (some y) none none) (.string (s.extract l.toNat s.size)) := fun a ha w d ty pos af g => by
 simp [execOp, Instr.sliceAt, Instr.slice, Instr.sliceBounds, Instr.sliceBound, asIntOf, ha.eval hx, ha.eval hy, ru hu, h0, h1]
theorem p_subHi {T : TypeId} {x z : Operand} {s : ByteArray} {k : IntKind} {h : Int} (hu : P.underlying T = some .string) (hx : evo e x = some (.string s)) (hz : evo e z = some (.int k h)) (h0 : 0 ≤ h) (h2 : h ≤ s.size) :
  Pu P N e (.slice T x none (some z) none) (.string (s.extract 0 h.toNat)) := fun a ha w d ty pos af g => by
 simp [execOp, Instr.sliceAt, Instr.slice, Instr.sliceBounds, Instr.sliceBound, asIntOf, ha.eval hx, ha.eval hz, ru hu, h0, h2]
/-! bools, conversions -/
theorem eqi_bool (d : Nat) {T : TypeId} {s t : Bool} (hu : P.underlying T = some .bool) (w : World) : (Op.equalIn (d + 1) T (.bool s) (.bool t)).run P w = .ok (s == t) w := by simp [Op.equalIn, ru hu]
theorem eqi_in (d : Nat) {T V : TypeId} {m} {v : Value} (hm : P.underlying T = some (.interface m)) (w : World) : (Op.equalIn (d + 1) T (.iface V v) .nilIface).run P w = .ok false w := by simp [Op.equalIn, ru hm]
theorem eqi_nn (d : Nat) {T : TypeId} {m} (hm : P.underlying T = some (.interface m)) (w : World) : (Op.equalIn (d + 1) T .nilIface .nilIface).run P w = .ok true w := by simp [Op.equalIn, ru hm]
theorem eqi_ne (d : Nat) {T V V' : TypeId} {m} {v v' : Value} (hm : P.underlying T = some (.interface m)) (hne : ¬ V = V') (w : World) : (Op.equalIn (d + 1) T (.iface V v) (.iface V' v')).run P w = .ok false w := by simp [Op.equalIn, ru hm, hne]
theorem run_choose (q : Question) (w : World) : ∃ r w', (choose q).run P w = .ok r w' ∧ (w' = w ∨ w' = w.drew) := by
 simp only [choose]
 by_cases hf : q.forced = true
 ·
  exact ⟨0, w, by simp [Sem.run, hf], .inl rfl⟩
 ·
  exact ⟨_, w.drew, by simp [Sem.run, hf]; rfl, .inr rfl⟩
theorem p_eqB {T U : TypeId} {x y : Operand} {s t : Bool} (hu : P.underlying T = some .bool) (hx : evo e x = some (.bool s)) (hy : evo e y = some (.bool t)) : Pu P N e (.binOp .eql T x y U) (.bool (s == t)) := fun a ha w d ty pos af g => by
 have h : (Op.equalIn 10000 T (.bool s) (.bool t)).run P w = .ok (s == t) w := eqi_bool 9999 hu w
 have hb : binOp .eql T (.bool s) (.bool t) = (do pure (.bool (← Op.equal T (.bool s) (.bool t)))) := rfl
 simp only [execOp, ha.eval hx, ha.eval hy]
 simp [eqGuard, hb, Op.equal, Op.maxDepth, h]
class IntT (P : Program) (T : TypeId) (k : outParam IntKind) : Prop where out : P.underlying T = some (.int k)
class HasT (P : Program) (T : TypeId) : Prop where out : (P.underlying T).isSome = true
theorem p_conv {T U : TypeId} [hT : HasT P T] {k j : IntKind} [hU : IntT P U k] {x : Operand} {n : Int} (hx : evo e x = some (.int j n)) : Pu P N e (.convert T U x) (.int k (k.wrap n)) := fun a ha w d ty pos af g => by
 obtain ⟨dT, hdT⟩ := Option.isSome_iff_exists.1 hT.out
 simp [execOp, convert, ha.eval hx, ru hdT, ru hU.out, Conv.intToInt]
theorem p_convF {T U : TypeId} [hT : HasT P T] {k : FloatKind} {j : IntKind} (hU : P.underlying U = some (.float k)) {x : Operand} {n : Int} (hx : evo e x = some (.int j n)) : Pu P N e (.convert T U x) (.float k (k.nearest n)) := fun a ha w d ty pos af g => by
 obtain ⟨dT, hdT⟩ := Option.isSome_iff_exists.1 hT.out
 simp [execOp, convert, ha.eval hx, ru hdT, ru hU, Conv.intToFloat]
theorem p_convIS {T U : TypeId} [hT : HasT P T] {j : IntKind} (hU : P.underlying U = some .string) {x : Operand} {n : Int} (hx : evo e x = some (.int j n)) : Pu P N e (.convert T U x) (.string (Utf8.encode n)) := fun a ha w d ty pos af g => by
 obtain ⟨dT, hdT⟩ := Option.isSome_iff_exists.1 hT.out
 simp [execOp, convert, ha.eval hx, ru hdT, ru hU, Conv.intToString]
/-! floats -/
theorem p_cmpF {op : BinOp} {T U : TypeId} {x y : Operand} {k : FloatKind} {m n : Nat} (hop : (match op with | .eql | .neq | .lss | .leq | .gtr | .geq => true | _ => false) = true) (hx : evo e x = some (.float k m)) (hy : evo e y = some (.float k n)) :
  ∃ b, Pu P N e (.binOp op T x y U) (.bool b) := by
 cases op <;> first
  | (simp at hop; done)
  | exact ⟨_, fun a ha w d ty pos af g => by simp [execOp, ha.eval hx, ha.eval hy, eqGuard, binOp, Op.floatCmp]; rfl⟩
theorem a_arF {op : BinOp} {T U : TypeId} {x y : Operand} {k : FloatKind} {m n : Nat} (hop : (match op with | .add | .sub | .mul | .quo => true | _ => false) = true) (hs : St w0 F w G) (hx : evo e x = some (.float k m)) (hy : evo e y = some (.float k n)) :
  ∃ r w', Mk P N e (.binOp op T x y U) w (.float k r) w' ∧ St w0 F w' G := by
 have key : ∀ z : Option Nat, ∃ r w', ((match z with | some r => pure (.float k r) | none => do pure (.float k (← choose (.nanBits k m n))) : Sem Value)).run P w = .ok (.float k r) w' ∧ St w0 F w' G := by
  intro z
  cases z with
  | some r => exact ⟨r, w, rfl, hs⟩
  | none =>
   obtain ⟨r, w', hr, hw⟩ := run_choose (P := P) (.nanBits k m n) w
   refine ⟨r, w', ?_, ?_⟩
   ·
    show (do pure (.float k (← choose (.nanBits k m n))) : Sem Value).run P w = _
    simp only [Sem.run_bind, hr, Result.andThen_ok, Sem.run_pure]
   ·
    rcases hw with rfl | rfl
    ·
     exact hs
    ·
     exact hs.drew
 have fin : ∀ z : Option Nat, (Op.floatArith op k m n = (match z with | some r => pure (.float k r) | none => do pure (.float k (← choose (.nanBits k m n))) : Sem Value)) → (binOp op T (.float k m) (.float k n) = Op.floatArith op k m n) → (∀ a, (eqGuard op T x y (.float k m) (.float k n) : Sem Unit).run P w = .ok a w → True) → (eqGuard op T x y (.float k m) (.float k n) : Sem Unit).run P w = .ok () w →
   ∃ r w', Mk P N e (.binOp op T x y U) w (.float k r) w' ∧ St w0 F w' G := by
  intro z hz hb _ hg
  obtain ⟨r, w', hr, hw⟩ := key z
  refine ⟨r, w', fun a ha d ty pos af g => ?_, hw⟩
  simp only [execOp, ha.eval hx, ha.eval hy, Sem.run_bind, hg, Result.andThen_ok, hb, hz, hr, Sem.run_pure]
 cases op <;> first
  | (simp at hop; done)
  | exact fin (k.format.add m n) rfl (by simp [binOp]) (fun _ _ => trivial) rfl
  | exact fin (k.format.sub m n) rfl (by simp [binOp]) (fun _ _ => trivial) rfl
  | exact fin (k.format.mul m n) rfl (by simp [binOp]) (fun _ _ => trivial) rfl
  | exact fin (k.format.div m n) rfl (by simp [binOp]) (fun _ _ => trivial) rfl
theorem p_negI {T : TypeId} {x : Operand} {k : IntKind} {n : Int} (hx : evo e x = some (.int k n)) : Pu P N e (.unOp .neg T x) (.int k (k.wrap (0 - n))) := fun a ha w d ty pos af g => by
 simp [execOp, ha.eval hx, Op.unary, Op.intArith]
theorem p_negF {T : TypeId} {x : Operand} {k : FloatKind} {n : Nat} (hx : evo e x = some (.float k n)) : ∃ r, Pu P N e (.unOp .neg T x) (.float k r) := ⟨_, fun a ha w d ty pos af g => by
 simp [execOp, ha.eval hx, Op.unary]; rfl⟩
/-! least and greatest -/
theorem p_max {T : Array TypeId} {x y : Operand} {k : IntKind} {m n : Int} (hx : evo e x = some (.int k m)) (hy : evo e y = some (.int k n)) : Pu P N e (.call ⟨.builtin .max, #[x, y], T⟩) (.int k (max m n)) := fun a ha w d ty pos af g => by
 simp [execOp, resolve, invoke, builtin, Builtin.max_, Builtin.max2, ha.eval hx, ha.eval hy]
 split <;> omega
theorem p_min {T : Array TypeId} {x y : Operand} {k : IntKind} {m n : Int} (hx : evo e x = some (.int k m)) (hy : evo e y = some (.int k n)) : Pu P N e (.call ⟨.builtin .min, #[x, y], T⟩) (.int k (min m n)) := fun a ha w d ty pos af g => by
 simp [execOp, resolve, invoke, builtin, Builtin.min_, Builtin.min2, ha.eval hx, ha.eval hy]
 split <;> omega
/-! arrays behind pointers -/
class ArrT (P : Program) (T : TypeId) (n : outParam Nat) (el : outParam TypeId) (sz : outParam Nat) : Prop where
 out : ∃ i, P.underlying T = some (.array n el) ∧ P.info? el = some i ∧ i.size = sz
theorem p_elemA {T n el sz : TypeId} [h : ArrT P T n el sz] {x y : Operand} {b o : Nat} {k : IntKind} {i : Int} (hx : evo e x = some (.pointer (some ⟨b, o, none⟩))) (hy : evo e y = some (.int k i)) (h0 : 0 ≤ i) (h1 : i < n) :
  Pu P N e (.indexAddr T x y) (.pointer (some ⟨b, o + i.toNat * sz, none⟩)) := fun a ha w d ty pos af g => by
 obtain ⟨j, hu, hj, rfl⟩ := h.out
 simp [execOp, Instr.indexAt, Instr.sureAddr, ha.eval hx, ha.eval hy, ru hu, asIntOf, h0, h1, sizeOf, ri hj, add_at]
/-! interfaces -/
theorem p_taYes {X T : TypeId} {x : Operand} {v : Value} [hT : Conc P T] (hx : evo e x = some (.iface T v)) : Pu P N e (.typeAssert x X T true) (.tuple #[v, .bool true]) := fun a ha w d ty pos af g => by
 have hc := hT.out
 unfold concrete at hc
 split at hc
 ·
  cases hc
 ·
  rename_i d' hd hn
  cases d' <;> first | (simp at hn; done) | simp_all [execOp, Instr.typeAssert, ha.eval hx, ru hn]
 ·
  cases hc
class ZeroV (P : Program) (T : TypeId) (z : outParam Value) : Prop where out : ∃ i, P.info? T = some i ∧ i.zero = some z
theorem p_taNo {X T U : TypeId} {x : Operand} {v z : Value} [hT : Conc P T] [hZ : ZeroV P T z] (hx : evo e x = some (.iface U v)) (hne : Nat.beq U T = false) : Pu P N e (.typeAssert x X T true) (.tuple #[z, .bool false]) := fun a ha w d ty pos af g => by
 have hc := hT.out
 obtain ⟨i, hi, hz⟩ := hZ.out
 have hzr : (zeroValue T).run P w = .ok z w := by simp [zeroValue, ri hi, hz]
 have hne' : ¬ U = T := fun h => by subst h; simp at hne
 unfold concrete at hc
 split at hc
 ·
  cases hc
 ·
  rename_i d' hd hn
  cases d' <;> first | (simp at hn; done) | simp_all [execOp, Instr.typeAssert, ha.eval hx, ru hn]
 ·
  cases hc
/-- The type U has all methods of the interface T. -/
def hasAll (P : Program) (U T : TypeId) : Bool := match P.underlying T, P.info? U with
 | some (.interface want), some i => (Instr.missingMethod want i.methods).isNone
 | _, _ => false
theorem p_taI {X T U : TypeId} {x : Operand} {v : Value} (hx : evo e x = some (.iface U v)) (h : hasAll P U T = true) : Pu P N e (.typeAssert x X T true) (.tuple #[.iface U v, .bool true]) := fun a ha w d ty pos af g => by
 unfold hasAll at h
 split at h
 ·
  rename_i want i hu hi
  have : Instr.missingMethod want i.methods = none := by simpa using h
  simp [execOp, Instr.typeAssert, ha.eval hx, ru hu, ri hi, this]
 ·
  cases h
class IfaceT (P : Program) (T : TypeId) : Prop where out : ∃ m, P.underlying T = some (.interface m)
theorem p_eqNil {T U V : TypeId} [h : IfaceT P T] {x : Operand} {v : Value} (hx : evo e x = some (.iface V v)) : Pu P N e (.binOp .eql T x (.const .nilIface) U) (.bool false) := fun a ha w d ty pos af g => by
 obtain ⟨m, hm⟩ := h.out
 have h : (Op.equalIn 10000 T (.iface V v) .nilIface).run P w = .ok false w := eqi_in 9999 hm w
 have hb : binOp .eql T (.iface V v) .nilIface = (do pure (.bool (← Op.equal T (.iface V v) .nilIface))) := rfl
 have hn : a.eval (.const .nilIface) = .nilIface := rfl
 simp only [execOp, ha.eval hx, hn]
 simp [eqGuard, hb, Op.equal, Op.maxDepth, h]
theorem p_neNil {T U V : TypeId} [h : IfaceT P T] {x : Operand} {v : Value} (hx : evo e x = some (.iface V v)) : Pu P N e (.binOp .neq T x (.const .nilIface) U) (.bool true) := fun a ha w d ty pos af g => by
 obtain ⟨m, hm⟩ := h.out
 have h : (Op.equalIn 10000 T (.iface V v) .nilIface).run P w = .ok false w := eqi_in 9999 hm w
 have hb : binOp .neq T (.iface V v) .nilIface = (do pure (.bool (!(← Op.equal T (.iface V v) .nilIface)))) := rfl
 have hn : a.eval (.const .nilIface) = .nilIface := rfl
 simp only [execOp, ha.eval hx, hn]
 simp [eqGuard, hb, Op.equal, Op.maxDepth, h]
theorem p_eqNN {T U : TypeId} [h : IfaceT P T] {x : Operand} (hx : evo e x = some .nilIface) : Pu P N e (.binOp .eql T x (.const .nilIface) U) (.bool true) := fun a ha w d ty pos af g => by
 obtain ⟨m, hm⟩ := h.out
 have h : (Op.equalIn 10000 T .nilIface .nilIface).run P w = .ok true w := eqi_nn 9999 hm w
 have hb : binOp .eql T .nilIface .nilIface = (do pure (.bool (← Op.equal T .nilIface .nilIface))) := rfl
 have hn : a.eval (.const .nilIface) = .nilIface := rfl
 simp only [execOp, ha.eval hx, hn]
 simp [eqGuard, hb, Op.equal, Op.maxDepth, h]
theorem p_neNN {T U : TypeId} [h : IfaceT P T] {x : Operand} (hx : evo e x = some .nilIface) : Pu P N e (.binOp .neq T x (.const .nilIface) U) (.bool false) := fun a ha w d ty pos af g => by
 obtain ⟨m, hm⟩ := h.out
 have h : (Op.equalIn 10000 T .nilIface .nilIface).run P w = .ok true w := eqi_nn 9999 hm w
 have hb : binOp .neq T .nilIface .nilIface = (do pure (.bool (!(← Op.equal T .nilIface .nilIface)))) := rfl
 have hn : a.eval (.const .nilIface) = .nilIface := rfl
 simp only [execOp, ha.eval hx, hn]
 simp [eqGuard, hb, Op.equal, Op.maxDepth, h]
/-- Two pointers in interfaces. -/
theorem p_eqII_ne {T U V V' : TypeId} [h : IfaceT P T] {x y : Operand} {v v' : Value} (hx : evo e x = some (.iface V v)) (hy : evo e y = some (.iface V' v')) (hne : Nat.beq V V' = false) : Pu P N e (.binOp .eql T x y U) (.bool false) := fun a ha w d ty pos af g => by
 obtain ⟨m, hm⟩ := h.out
 have hne' : ¬ V = V' := fun h => by subst h; simp at hne
 have h : (Op.equalIn 10000 T (.iface V v) (.iface V' v')).run P w = .ok false w := eqi_ne 9999 hm hne' w
 have hb : binOp .eql T (.iface V v) (.iface V' v') = (do pure (.bool (← Op.equal T (.iface V v) (.iface V' v')))) := rfl
 simp only [execOp, ha.eval hx, ha.eval hy]
 simp [eqGuard, hb, Op.equal, Op.maxDepth, h]
end
end Go.Proofs.YtmalghopogngoaaGreatDoor.MW
set_option linter.unusedVariables false
set_option linter.unusedSimpArgs false
namespace Go.Proofs.YtmalghopogngoaaGreatDoor.MW
open Go Go.RowKit
section
variable {P : Program}
def arrB (P : Program) (T n el sz : Nat) : Bool := match P.underlying T, P.info? el with
 | some (.array m e), some i => m == n && e == el && i.size == sz
 | _, _ => false
theorem arr_of {T n el sz : Nat} (h : arrB P T n el sz = true) : ∃ i, P.underlying T = some (.array n el) ∧ P.info? el = some i ∧ i.size = sz := by
 unfold arrB at h
 split at h
 ·
  rename_i m e i hu hi
  simp only [Bool.and_eq_true, beq_iff_eq] at h
  obtain ⟨⟨rfl, rfl⟩, rfl⟩ := h
  exact ⟨i, hu, hi, rfl⟩
 ·
  cases h
def ifaceB (P : Program) (T : Nat) : Bool := match P.underlying T with
 | some (.interface _) => true
 | _ => false
theorem iface_of {T : Nat} (h : ifaceB P T = true) : ∃ m, P.underlying T = some (.interface m) := by
 unfold ifaceB at h
 split at h
 ·
  exact ⟨_, by assumption⟩
 ·
  cases h
def zeroVO (P : Program) (T : Nat) : Option Value := match P.info? T with
 | some i => i.zero
 | _ => none
theorem zeroV_of {T : Nat} {z : Value} (h : zeroVO P T = some z) : ∃ i, P.info? T = some i ∧ i.zero = some z := by
 unfold zeroVO at h
 split at h
 ·
  exact ⟨_, by assumption, h⟩
 ·
  cases h
def eltB (P : Program) (T el sz bytes : Nat) : Bool := match P.underlying T, P.info? el with
 | some (.slice e), some i => e == el && i.size == sz && i.bytes == bytes && Nat.blt 0 sz && (match i.zero with | some z => z.cells.size == sz | none => false)
 | _, _ => false
theorem elt_of {T el sz bytes : Nat} (h : eltB P T el sz bytes = true) : ∃ i z, P.underlying T = some (.slice el) ∧ P.info? el = some i ∧ i.zero = some z ∧ i.size = sz ∧ i.bytes = bytes ∧ z.cells.size = sz ∧ 0 < sz := by
 unfold eltB at h
 split at h
 ·
  rename_i e i hu hi
  simp only [Bool.and_eq_true, beq_iff_eq] at h
  obtain ⟨⟨⟨⟨rfl, rfl⟩, rfl⟩, h0⟩, hz⟩ := h
  split at hz
  ·
   rename_i z hz'
   exact ⟨i, z, hu, hi, hz', rfl, rfl, beq_iff_eq.1 hz, Nat.le_of_ble_eq_true h0⟩
  ·
   cases hz
 ·
  cases h
class StructT (P : Program) (T : TypeId) : Prop where
 out : ∃ fs, P.underlying T = some (.struct fs) ∧ (fs.all fun f => (P.info? f.type).isSome) = true
def structB (P : Program) (T : Nat) : Bool := match P.underlying T with
 | some (.struct fs) => fs.all fun f => (P.info? f.type).isSome
 | _ => false
theorem struct_of {T : Nat} (h : structB P T = true) : ∃ fs, P.underlying T = some (.struct fs) ∧ (fs.all fun f => (P.info? f.type).isSome) = true := by
 unfold structB at h
 split at h
 ·
  exact ⟨_, by assumption, h⟩
 ·
  cases h
end
section
variable {P : Program} {N : Nat} {Q : Exit → Env → World → Prop} {e : Env} {w w0 : World} {ops : Array Oper} {rest : List Oper} {F : Foot} {G G' G0 : List Assn}
 {d : Nat} {ty : TypeId} {pos : String} {af : Array Edge}
/-! ### slices that are built -/
inductive Parts (e : Env) (sz : Nat) : Nat → List (Nat × Operand) → (Nat → Value) → Prop where
 | nil {i : Nat} : Parts e sz i [] (fun _ => undef)
 | one {i : Nat} {x : Operand} {v : Value} {l : List (Nat × Operand)} {f : Nat → Value} : evo e x = some v → v.oneCell' = true → sz = 1 → Parts e sz (i + 1) l f → Parts e sz i ((i, x) :: l) (updC f i v)
 | agg {i : Nat} {x : Operand} {g : Nat → Value} {l : List (Nat × Operand)} {f : Nat → Value} : evo e x = some (.agg (mkA sz g)) → Parts e sz (i + 1) l f → Parts e sz i ((i, x) :: l) (lay f (i * sz) sz g)
theorem parts_run {sz n : Nat} {l : List (Nat × Operand)} {i : Nat} {f : Nat → Value} (h : Parts e sz i l f) (hn : (i + l.length) * sz = n) {a : Act} (ha : Sh N e a) (z : Nat → Value) :
  ∃ z', Instr.fill (fun i => some (i * sz, sz)) (mkA n z) (l.map fun (i, x) => (i, a.eval x)) = some (mkA n z') ∧ (∀ j, j < i * sz → z' j = z j) ∧ (∀ j, i * sz ≤ j → j < n → z' j = f j) := by
 induction h generalizing z with
 | nil =>
  refine ⟨z, rfl, fun _ _ => rfl, fun j h1 h2 => ?_⟩
  simp at hn
  omega
 | one hx hv h1 _ ih =>
  rename_i i x v l f _
  subst h1
  have hlen : (i + 1 + l.length) * 1 = n := by simp at hn ⊢; omega
  obtain ⟨z', hz, hlo, hhi⟩ := ih hlen (updC z i v)
  refine ⟨z', ?_, fun j hj => ?_, fun j h1 h2 => ?_⟩
  ·
   simp only [List.map_cons, Instr.fill, ha.eval hx, oneCell_cells hv, mkA_size]
   rw [if_neg (by simp; omega)]
   have := fill_lay z n (i * 1) 1 (cl [v]) (by omega)
   rw [← one_cl, updC_lay, Nat.mul_one] at this
   rw [Nat.mul_one, this]
   exact hz
  ·
   rw [hlo j (by omega)]
   unfold updC
   cases hb : Nat.beq j i with
   | true => have := Nat.eq_of_beq_eq_true hb; omega
   | false => rfl
  ·
   unfold updC
   cases hb : Nat.beq j i with
   | true =>
    have := Nat.eq_of_beq_eq_true hb
    subst this
    rw [hlo j (by omega)]
    unfold updC
    rw [hb]
    rfl
   | false =>
    have hne : j ≠ i := fun h => by subst h; simp at hb
    rw [hhi j (by omega) h2]
    rfl
 | agg hx _ ih =>
  rename_i i x g l f _
  have hlen : (i + 1 + l.length) * sz = n := by
   rw [← hn, List.length_cons]
   congr 1
   omega
  have hle : i * sz + sz ≤ n := by
   rw [← hlen, Nat.add_mul, Nat.add_mul, Nat.one_mul]
   omega
  obtain ⟨z', hz, hlo, hhi⟩ := ih hlen (lay z (i * sz) sz g)
  have h1s : (i + 1) * sz = i * sz + sz := by rw [Nat.add_mul, Nat.one_mul]
  rw [h1s] at hlo hhi
  refine ⟨z', ?_, fun j hj => ?_, fun j h1 h2 => ?_⟩
  ·
   simp only [List.map_cons, Instr.fill, ha.eval hx, mkA_size, Value.cells]
   rw [if_neg (by simp; omega), fill_lay z n (i * sz) sz g hle]
   exact hz
  ·
   rw [hlo j (by omega)]
   unfold lay
   have : Nat.ble (i * sz) j = false := by
    cases hb : Nat.ble (i * sz) j with
    | true => have := Nat.le_of_ble_eq_true hb; omega
    | false => rfl
   rw [this]
   rfl
  ·
   by_cases hj : j < i * sz + sz
   ·
    rw [hlo j hj]
    unfold lay
    have e1 : Nat.ble (i * sz) j = true := Nat.ble_eq_true_of_le h1
    have e2 : Nat.blt j (i * sz + sz) = true := Nat.ble_eq_true_of_le hj
    rw [e1, e2]
    rfl
   ·
    rw [hhi j (by omega) h2]
    unfold lay
    have e2 : Nat.blt j (i * sz + sz) = false := by
     cases hb : Nat.blt j (i * sz + sz) with
     | true => exact absurd (Nat.le_of_ble_eq_true hb) hj
     | false => rfl
    rw [e2, Bool.and_false]
    rfl
theorem a_bs {T el sz bytes len : Nat} [hE : Elt P T el sz bytes] {l : List (Nat × Operand)} {f : Nat → Value} (hs : St w0 F w G) (hl : l.length = len) (hsm : Nat.ble (len * sz) 16777216 = true) (hp : Parts e sz 0 l f) :
  ∃ w', Mk P N e (.buildSlice T len l.toArray) w (.slice (some ⟨w.heap.size, 0, none⟩) len len) w' ∧ St w0 F w' (pt w.heap.size el (len * sz) f :: G) := by
 obtain ⟨i, z, hu, hi, hz, hsz, hbt, hzs, h0⟩ := hE.out
 subst hl
 have hsm' := Nat.le_of_ble_eq_true hsm
 refine ⟨w.alloc (.cells (mkA (l.length * sz) f) el), fun a ha d ty pos af g => ?_, hs.alloc el _ _⟩
 obtain ⟨z', hfill, _, hhi⟩ := parts_run hp (n := l.length * sz) (by simp) ha (fun j => z.cells[j % z.cells.size]!)
 rw [mkA_congr (f := z') (g := f) fun j hj => hhi j (by simp) hj] at hfill
 have hzr : (zeroValue el).run P w = .ok z w := by simp [zeroValue, ri hi, hz]
 have hrange : (Array.range (l.length * sz)).map (fun x => z.cells[x % z.cells.size]!) = mkA (l.length * sz) (fun j => z.cells[j % z.cells.size]!) := by
  refine mkA_ext (by simp) fun j hj => by simp [hj]
 have hpm : (l.toArray.map fun (i, x) => (i, a.eval x)).toList = l.map fun (i, x) => (i, a.eval x) := by simp
 by_cases hn : l.length * sz = 0
 ·
  have hl0 : l.length = 0 := (Nat.mul_eq_zero.1 hn).resolve_right (by omega)
  have hl' : l = [] := List.eq_nil_of_length_eq_zero hl0
  subst hl'
  simp only [execOp, Instr.buildSlice, Sem.run_bind, ru hu, Result.andThen_ok, sizeOf, ri hi, hsz]
  simp [mkA, Instr.fill, newRow]
  congr 2
  apply Array.ext
  ·
   simp
  ·
   intro i h1 h2; simp at h2
 ·
  have h24 : ¬ (l.length * sz > 2 ^ 24) := by
   have : (2 : Nat) ^ 24 = 16777216 := by decide
   omega
  simp only [execOp, Instr.buildSlice, Sem.run_bind, ru hu, Result.andThen_ok, sizeOf, ri hi, hsz, Sem.run_pure, h24, if_false, hn, hzr, hpm, hrange, hfill, newRow]
  rfl
/-! ### pointers in interfaces -/
def ptrB (P : Program) (V : TypeId) : Bool := match P.underlying V, P.info? V with
 | some (.pointer te), some i => i.comparable && (match P.info? te with | some j => Nat.blt 0 j.size | none => false)
 | _, _ => false
class PtrT (P : Program) (V : TypeId) : Prop where out : ptrB P V = true
theorem PtrT.und {V : TypeId} (h : PtrT P V) : ∃ te i j, P.underlying V = some (.pointer te) ∧ P.info? V = some i ∧ i.comparable = true ∧ P.info? te = some j ∧ j.size ≠ 0 := by
 have h := h.out
 unfold ptrB at h
 split at h
 ·
  rename_i te i hu hi
  rw [Bool.and_eq_true] at h
  obtain ⟨hc, h⟩ := h
  split at h
  ·
   rename_i j hj
   exact ⟨te, i, j, hu, hi, hc, hj, by have := Nat.le_of_ble_eq_true h; omega⟩
  ·
   cases h
 ·
  cases h
theorem p_eqII_same {T U V : TypeId} [h : IfaceT P T] [hV : PtrT P V] {x y : Operand} {ad : Addr} (hx : evo e x = some (.iface V (.pointer (some ad)))) (hy : evo e y = some (.iface V (.pointer (some ad)))) : Pu P N e (.binOp .eql T x y U) (.bool true) := fun a ha w d ty pos af g => by
 obtain ⟨m, hm⟩ := h.out
 obtain ⟨te, i, j, hp, hi, hc, hj, hz⟩ := hV.und
 have hr := run_eql_iface_ptr_same (P := P) w ad hm hp hi hc hj
 simp only [execOp, ha.eval hx, ha.eval hy]
 simp [eqGuard, hr]
theorem p_eqII_other {T U V : TypeId} [h : IfaceT P T] [hV : PtrT P V] {x y : Operand} {b b' T1 n1 T2 n2 : Nat} {f1 f2 : Nat → Value} (hx : evo e x = some (.iface V (.pointer (some ⟨b, 0, none⟩)))) (hy : evo e y = some (.iface V (.pointer (some ⟨b', 0, none⟩)))) (hne : b ≠ b')
  (h1 : w.heap[b]? = some (.cells (mkA n1 f1) T1 (0, 0))) (h2 : w.heap[b']? = some (.cells (mkA n2 f2) T2 (0, 0))) : At P N e (.binOp .eql T x y U) w (.bool false) := fun a ha d ty pos af g => by
 obtain ⟨m, hm⟩ := h.out
 obtain ⟨te, i, j, hp, hi, hc, hj, hz⟩ := hV.und
 have hr := run_eql_iface_ptr_other (P := P) w (a := ⟨b, 0, none⟩) (b := ⟨b', 0, none⟩) hm hp hi hc hj hz (by simp [hne]) h1 h2
 simp only [execOp, ha.eval hx, ha.eval hy]
 simp [eqGuard, hr]
/-! ### calls through interfaces -/
def methodB (P : Program) (T : TypeId) (name : String) (f : FuncId) : Bool := match P.info? T, P.underlying T, P.funcs[f]? with
 | some i, some (.struct _), some fn => (match i.methods.find? (·.name == name) with
  | some m => m.path.isEmpty && m.func == some (f, false)
  | none => false) && fn.name != "runtime.NumGoroutine" && !fn.body.isNone
 | _, _, _ => false
theorem invoke_run {T : TypeId} {f : FuncId} {name : String} (h : methodB P T name f = true) {x : Operand} {v : Value} {xs : List Operand} {vs : List Value} {tys : Array TypeId} (hx : evo e x = some (.iface T v)) (hA : Args e xs vs) {a : Act} (ha : Sh N e a) (w : World) (d : Option Tmp) (ty : TypeId) (pos : String) (af : Array Edge) (g : Option (Nat × Bool)) :
  (execOp a.eval ⟨d, .call ⟨.invoke x name, xs.toArray, tys⟩, ty, pos, af, g⟩).run P w = .ok (.enter f (v :: vs).toArray) w := by
 unfold methodB at h
 split at h
 ·
  rename_i i fs fn hi hu hf
  simp only [Bool.and_eq_true, bne_iff_ne, ne_eq, Bool.not_eq_true'] at h
  obtain ⟨⟨h1, hn⟩, hb⟩ := h
  split at h1
  ·
   rename_i m hm
   simp only [Bool.and_eq_true, beq_iff_eq] at h1
   obtain ⟨hp, hmf⟩ := h1
   have hp' : m.path = #[] := by simpa using hp
   have hb' : fn.body ≠ none := by intro h; simp [h] at hb
   have hargs := hA.map ha
   have hmeth : (method (P.types.size + Made.depth) T v name).run P w = .ok (f, v) w := by
    have : P.types.size + Made.depth = (P.types.size + Made.depth - 1) + 1 := by
     have : 0 < Made.depth := by decide
     omega
    rw [this]
    simp [method, ri hi, hm, hp', follow, hmf, receiverAt, ru hu, Place.get]
   simp only [execOp, resolve, ha.eval hx, List.map_toArray, hargs, Sem.run_bind, Sem.run_pure, Result.andThen_ok, invoke]
   simp [callMethod, hmeth, callFunc, hf, hn, hb']
  ·
   cases h1
 ·
  cases h
theorem s_invoke {T : TypeId} {f : FuncId} {name : String} (hm : methodB P T name f = true) {x : Operand} {v : Value} {xs : List Operand} {vs : List Value} {tys : Array TypeId} {R : Value → World → Prop} (hc : CallsR P f (v :: vs).toArray w R) (hx : evo e x = some (.iface T v)) (hA : Args e xs vs) (hN : Nat.blt d N = true)
  (h : ∀ v w', R v w' → WL P ops N rest Q (upd e d v) w') : WL P ops N (⟨some d, .call ⟨.invoke x name, xs.toArray, tys⟩, ty, pos, af, none⟩ :: rest) Q e w :=
 s_enter rfl rfl hN (fun a hs => invoke_run hm hx hA hs w _ _ _ _ _) hc h
/-! ### the steps as the walks take them: memory -/
theorem k_ld {T : TypeId} [One P T] {x : Operand} {b o T' n : Nat} {f : Nat → Value} (hs : St w0 F w G) (hx : evo e x = some (.pointer (some ⟨b, o, none⟩))) (hp : Pick G (pt b T' n f) G') (ho : Nat.blt o n = true) (hN : Nat.blt d N = true) (h : WL P ops N rest Q (upd e d (f o)) w) :
  WL P ops N (⟨some d, .load T x, ty, pos, af, none⟩ :: rest) Q e w := s_at (a_ld hs hx hp ho) hN h
theorem k_ldA {T m : TypeId} [Agg P T m] {x : Operand} {b o T' n : Nat} {f : Nat → Value} (hs : St w0 F w G) (hx : evo e x = some (.pointer (some ⟨b, o, none⟩))) (hp : Pick G (pt b T' n f) G') (ho : Nat.ble (o + m) n = true) (hN : Nat.blt d N = true) (h : WL P ops N rest Q (upd e d (.agg (mkA m (sft f o)))) w) :
  WL P ops N (⟨some d, .load T x, ty, pos, af, none⟩ :: rest) Q e w := s_at (a_ldA hs hx hp ho) hN h
theorem a_ldW {T n : TypeId} [Agg P T n] {x : Operand} {b T' : Nat} {f : Nat → Value} (hs : St w0 F w G) (hx : evo e x = some (.pointer (some ⟨b, 0, none⟩))) (hp : Pick G (pt b T' n f) G') : At P N e (.load T x) w (.agg (mkA n f)) := by
 have := a_ldA (P := P) (N := N) (T := T) hs hx hp (by rw [Nat.zero_add]; exact Nat.ble_eq_true_of_le (Nat.le_refl _))
 rwa [mkA_congr (f := sft f 0) (g := f) fun i _ => by unfold sft; rw [Nat.zero_add]] at this
theorem k_ldW {T n : TypeId} [Agg P T n] {x : Operand} {b T' : Nat} {f : Nat → Value} (hs : St w0 F w G) (hx : evo e x = some (.pointer (some ⟨b, 0, none⟩))) (hp : Pick G (pt b T' n f) G') (hN : Nat.blt d N = true) (h : WL P ops N rest Q (upd e d (.agg (mkA n f))) w) :
  WL P ops N (⟨some d, .load T x, ty, pos, af, none⟩ :: rest) Q e w := s_at (a_ldW hs hx hp) hN h
theorem Put.pick {A B : Assn} (h : Put G A B G') : ∃ G0, Pick G A G0 := by
 induction h with
 | head => exact ⟨_, .head⟩
 | tail _ ih => obtain ⟨G', hp⟩ := ih; exact ⟨_, .tail hp⟩
theorem k_st {T : TypeId} [One P T] {x y : Operand} {b o T' n : Nat} {f : Nat → Value} {v : Value} (hs : St w0 F w G) (hx : evo e x = some (.pointer (some ⟨b, o, none⟩))) (hy : evo e y = some v) (hp : Put G (pt b T' n f) (pt b T' n (updC f o v)) G') (hv : v.oneCell' = true) (ho : Nat.blt o n = true)
  (h : ∀ w', St w0 F w' G' → WL P ops N rest Q e w') : WL P ops N (⟨none, .store T x y, ty, pos, af, none⟩ :: rest) Q e w := by
 obtain ⟨G0, hpk⟩ := hp.pick
 obtain ⟨w', hr, hs'⟩ := a_st (P := P) (N := N) (T := T) hs hx hy hv hp hpk ho
 exact s_wr hr (h w' hs')
theorem k_stW {T n : TypeId} [Agg P T n] {x y : Operand} {b T' : Nat} {f g : Nat → Value} (hs : St w0 F w G) (hx : evo e x = some (.pointer (some ⟨b, 0, none⟩))) (hy : evo e y = some (.agg (mkA n g))) (hp : Put G (pt b T' n f) (pt b T' n g) G') (hv : ∀ i, i < n → (g i).oneCell' = true)
  (h : ∀ w', St w0 F w' G' → WL P ops N rest Q e w') : WL P ops N (⟨none, .store T x y, ty, pos, af, none⟩ :: rest) Q e w := by
 obtain ⟨G0, hpk⟩ := hp.pick
 obtain ⟨w', hr, hs'⟩ := a_stW (P := P) (N := N) (T := T) hs hx hy hv hp hpk
 exact s_wr hr (h w' hs')
theorem k_alloc {T : TypeId} {z : List Value} [Zero P T z] (hs : St w0 F w G) (hN : Nat.blt d N = true) (h : ∀ b w', St w0 F w' (pt b T z.length (cl z) :: G) → WL P ops N rest Q (upd e d (.pointer (some ⟨b, 0, none⟩))) w') :
  WL P ops N (⟨some d, .alloc T, ty, pos, af, none⟩ :: rest) Q e w := by
 obtain ⟨w', hr, hs'⟩ := a_alloc (P := P) (N := N) (e := e) (T := T) hs
 exact s_mk hr hN (h _ w' hs')
theorem k_box {T n : TypeId} {x : Operand} {f : Nat → Value} (hs : St w0 F w G) (hx : evo e x = some (.agg (mkA n f))) (hN : Nat.blt d N = true) (h : ∀ b w', St w0 F w' (pt b T n f :: G) → WL P ops N rest Q (upd e d (.pointer (some ⟨b, 0, none⟩))) w') :
  WL P ops N (⟨some d, .box T x, ty, pos, af, none⟩ :: rest) Q e w := by
 obtain ⟨w', hr, hs'⟩ := a_box (P := P) (N := N) (T := T) hs hx
 exact s_mk hr hN (h _ w' hs')
theorem k_bs {T el sz bytes len : Nat} [Elt P T el sz bytes] {l : List (Nat × Operand)} {f : Nat → Value} (hs : St w0 F w G) (hp : Parts e sz 0 l f) (hl : l.length = len) (hsm : Nat.ble (len * sz) 16777216 = true) (hN : Nat.blt d N = true)
  (h : ∀ b w', St w0 F w' (pt b el (len * sz) f :: G) → WL P ops N rest Q (upd e d (.slice (some ⟨b, 0, none⟩) len len)) w') : WL P ops N (⟨some d, .buildSlice T len l.toArray, ty, pos, af, none⟩ :: rest) Q e w := by
 obtain ⟨w', hr, hs'⟩ := a_bs (P := P) (N := N) (T := T) hs hl hsm hp
 exact s_mk hr hN (h _ w' hs')
theorem k_app {T el sz bytes nb nT m c k : Nat} [Elt P T el sz bytes] {x y : Operand} {v : Value} {n : Nat} {f g : Nat → Value} (hs : St w0 F w (row v el sz n f :: G)) (hx : evo e x = some v) (hy : evo e y = some (.slice (some ⟨nb, 0, none⟩) m c))
  (hp : Pick G (pt nb nT k g) G0) (hk : k = m * sz) (h1 : ∀ i, i < k → (g i).oneCell' = true) (hlen : n + m ≤ 9223372036854775807) (hby : (n + m) * bytes ≤ 140737488355328) (hN : Nat.blt d N = true)
  (h : ∀ v' w', St w0 F w' (row v' el sz (n + m) (cat f (n * sz) g) :: G) → WL P ops N rest Q (upd e d v') w') : WL P ops N (⟨some d, .call ⟨.builtin .append, #[x, y], #[T, T]⟩, ty, pos, af, none⟩ :: rest) Q e w := by
 obtain ⟨v', w', hr, hs'⟩ := a_append (P := P) (N := N) (T := T) hs hx hy hp hk h1 hlen hby
 exact s_mk hr hN (h _ w' hs')
theorem p_st {T : TypeId} {z : List Value} [Zero P T z] [hS : StructT P T] {l : List (Nat × Operand)} {z' : Nat → Value} (h : Fills P T z.length e l (cl z) z') : Pu P N e (.build T l.toArray) (.agg (mkA z.length z')) := by
 obtain ⟨fs, hu, hall⟩ := hS.out
 exact p_build hu hall h
end
end Go.Proofs.YtmalghopogngoaaGreatDoor.MW
set_option linter.unusedVariables false
set_option linter.unusedSimpArgs false
namespace Go.Proofs.YtmalghopogngoaaGreatDoor.MW
open Go Go.RowKit
section
variable {P : Program} {N : Nat} {Q : Exit → Env → World → Prop} {e : Env} {w w0 : World} {ops : Array Oper} {l rest : List Oper} {F : Foot} {G G' G0 : List Assn}
 {d : Nat} {ty : TypeId} {pos : String} {af : Array Edge}
theorem W_skip_th {K : Env → World → Prop} (h : K e w) : W P N .skip (Th K Q) e w := W_skip h
theorem W_join {c y : Code} (K : Env → World → Prop) (h1 : W P N c (Th K Q) e w) (h2 : ∀ e' w', K e' w' → W P N y Q e' w') : W P N (.seq c y) Q e w :=
 W_seq (W_mono (fun x e' w' hq => by cases x <;> first | exact h2 _ _ hq | exact hq) h1)
theorem WL_forget {e' : Env} (hx : Ext e e') (h : WL P ops N l Q e' w) : WL P ops N l Q e w := fun a ha => h a (ha.ext hx)
def keepE : List Nat → Env → Env
 | [], _ => emp
 | t :: l, e => fun s => bif Nat.beq s t then e t else keepE l e s
theorem ext_kn {e' : Env} : Ext e' (keepE [] e) := Ext.nil _
theorem ext_kc {e' : Env} {t : Nat} {lv : List Nat} (h : e' t = e t) (h' : Ext e' (keepE lv e)) : Ext e' (keepE (t :: lv) e) := fun s v hv => by
 unfold keepE at hv
 cases hb : Nat.beq s t with
 | true =>
  rw [hb] at hv
  obtain rfl := Nat.eq_of_beq_eq_true hb
  rw [h]
  exact hv
 | false =>
  rw [hb] at hv
  exact h' s v hv
theorem ext_kd {e' : Env} {t : Nat} {v : Value} {lv : List Nat} (h : e t = some v) (h2 : e' t = some v) (h' : Ext e' (keepE lv e)) : Ext e' (keepE (t :: lv) e) := ext_kc (h2.trans h.symm) h'
theorem Ext.upd_same {t : Nat} {v : Value} (h : e t = some v) : Ext e (upd e t v) := Ext.cons h (Ext.refl e)
theorem s_bool (t : Nat) {b : Bool} (hb : e t = some (.bool b)) (h1 : b = true → WL P ops N l Q (upd e t (.bool true)) w) (h2 : b = false → WL P ops N l Q (upd e t (.bool false)) w) : WL P ops N l Q e w := by
 cases b with
 | true => exact WL_forget (Ext.upd_same hb) (h1 rfl)
 | false => exact WL_forget (Ext.upd_same hb) (h2 rfl)
theorem wpList_app {Q' Q'' : Exit → Act → World → Prop} (l r : List Oper) (hn : ∀ a w, Q'' .normal a w → wpList P ops Q' r a w) (hx : ∀ x a w, x ≠ .normal → Q'' x a w → Q' x a w) (a : Act) (w : World) (h : wpList P ops Q'' l a w) : wpList P ops Q' (l ++ r) a w := by
 induction l generalizing a w with
 | nil => exact hn _ _ h
 | cons o l ih =>
  have hlet : LetsOut Q'' → LetsOut Q' := fun ⟨a, w, hl⟩ => ⟨a, w, hx _ _ _ (by simp) hl⟩
  simp only [List.cons_append, wpList] at h ⊢
  split
  ·
   rename_i hw
   rw [if_pos hw] at h
   refine h.imp (fun h => ?_) (fun h => ⟨h.1, hlet h.2⟩)
   unfold Oper.wp at h ⊢
   generalize (execOp a.eval o).run P w = r at *
   cases r with
   | ok n w' =>
    cases n <;> simp only [Oper.upon] at h ⊢ <;>
     first
      | exact ih _ _ h
      | exact Calls.mono h (fun e w'' he => by
        cases e
        ·
         exact ih _ _ he
        ·
         exact hx _ _ _ (by simp) he
        ·
         exact hlet he)
      | exact Rows.mono h (fun _ _ he => ih _ _ he)
   | halt x w' => cases x <;> simp only [Oper.upon] at h ⊢ <;> exact hx _ _ _ (by simp) h
  ·
   rename_i hw
   rw [if_neg hw] at h
   exact ih _ _ h
theorem WL_cut (n : Nat) (K : Env → World → Prop) (h1 : WL P ops N (l.take n) (Th K Q) e w) (h2 : ∀ e' w', K e' w' → WL P ops N (l.drop n) Q e' w') : WL P ops N l Q e w := fun a ha => by
 rw [← List.take_append_drop n l]
 refine wpList_app _ _ ?_ ?_ _ _ (h1 a ha)
 ·
  rintro a w ⟨e', s, hk⟩
  exact h2 _ _ hk a s
 ·
  rintro x a w hx ⟨e', s, q⟩
  cases x with
  | normal => exact absurd rfl hx
  | exit id => exact ⟨e', s, q⟩
  | goto l => exact ⟨e', s, q⟩
  | ret => exact ⟨e', s, q⟩
  | panic ch => exact ⟨e', s, q⟩
  | outgrown => exact ⟨e', s, q⟩
/-- A choice of two, at a frame of which some slots are kept. -/
theorem WL_cutb (n t : Nat) (lv : List Nat) (R : Bool → Prop) (h1 : WL P ops N (l.take n) (Th (fun e' w' => w' = w ∧ ∃ b, R b ∧ Ext e' (upd (keepE lv e) t (.bool b))) Q) e w)
  (h2 : ∀ b, R b → WL P ops N (l.drop n) Q (upd (keepE lv e) t (.bool b)) w) : WL P ops N l Q e w :=
 WL_cut n _ h1 fun e' w' ⟨hw, b, hr, hx⟩ => by subst hw; exact WL_forget hx (h2 b hr)
/-- The same, what is known of the world being kept, not the world. -/
theorem WL_cutw (n t : Nat) (lv : List Nat) (R : Bool → Prop) (I : World → Prop) (h1 : WL P ops N (l.take n) (Th (fun e' w' => I w' ∧ ∃ b, R b ∧ Ext e' (upd (keepE lv e) t (.bool b))) Q) e w)
  (h2 : ∀ w' b, I w' → R b → WL P ops N (l.drop n) Q (upd (keepE lv e) t (.bool b)) w') : WL P ops N l Q e w :=
 WL_cut n _ h1 fun e' w' ⟨hw, b, hr, hx⟩ => WL_forget hx (h2 w' b hw hr)
theorem below_zero {p : Nat → Prop} : ∀ i, i < 0 → p i := fun i h => by omega
theorem below_succ {p : Nat → Prop} {n : Nat} (h : ∀ i, i < n → p i) (hn : p n) : ∀ i, i < n + 1 → p i := fun i hi => by
 by_cases he : i = n
 ·
  subst he; exact hn
 ·
  exact h i (by omega)
/-- What is read only is handed on; what is new is the caller's. -/
def FreshR (w : World) (R : Value → List Assn → Prop) (v : Value) (w' : World) : Prop := ∃ G1 S1, R v G1 ∧ Keep (fun _ => False) w w' ∧ Sat w' G1 S1 ∧ ∀ b, S1 b → w.heap.size ≤ b
def Fresh (P : Program) (f : FuncId) (args : List Value) (w : World) (R : Value → List Assn → Prop) : Prop := CallsR P f args.toArray w (FreshR w R)
def Quiet (P : Program) (f : FuncId) (args : List Value) (w : World) (R : Value → Prop) : Prop :=
 CallsR P f args.toArray w fun v w' => R v ∧ Keep (fun _ => False) w w'
theorem St.keep0 {w w' : World} (h : St w (fun _ => False) w' G) : Keep (fun _ => False) w w' := h.keep
theorem St.fresh {w w' : World} {R : Value → List Assn → Prop} {v : Value} (h : St w (fun _ => False) w' G) (hr : R v G) : FreshR w R v w' := by
 obtain ⟨S, hs, hF⟩ := h.sat
 exact ⟨G, S, hr, h.keep, hs, fun b hb => (hF b hb).elim False.elim id⟩
theorem upd_at {e : Env} {a : Nat} {v : Value} : upd e a v a = some v := by unfold upd; rw [Nat.beq_refl]; rfl
theorem upd_off {e : Env} {a b : Nat} {v : Value} (h : Nat.beq b a = false) : upd e a v b = e b := by unfold upd; rw [h]; rfl
/-- A type switch's arm that is passed by. -/
theorem ta_no {id : Nat} {A B : Code} {X T U : TypeId} {v z : Value} [Conc P T] [ZeroV P T z] {x a b c : Nat} {t1 t2 t3 : TypeId} {p1 p2 p3 : String} {f1 f2 f3 : Array Edge} (hx : e x = some (.iface U v)) (hne : Nat.beq U T = false) (hN : (Nat.blt a N && Nat.blt b N && Nat.blt c N && !Nat.beq b c && !Nat.beq a b) = true)
  (h : W P N B Q (upd (upd (upd e a (.tuple #[z, .bool false])) b (.bool false)) c z) w) :
  W P N (.seq (.region id #[⟨some a, .typeAssert (.tmp x) X T true, t1, p1, f1, none⟩, ⟨some b, .extract (.tmp a) 1, t2, p2, f2, none⟩, ⟨some c, .extract (.tmp a) 0, t3, p3, f3, none⟩] false) (.cond (.tmp b) A B)) Q e w := by
 simp only [Bool.and_eq_true, Bool.not_eq_true'] at hN
 obtain ⟨⟨⟨⟨ha, hb⟩, hc⟩, hbc⟩, hab⟩ := hN
 refine W_seq (W_reg ?_)
 refine s_pu (p_taNo hx hne) ha ?_
 refine s_pu (p_extract (vs := [z, .bool false]) (i := 1) upd_at rfl) hb ?_
 refine s_pu (p_extract (vs := [z, .bool false]) (i := 0) (v := z) ((upd_off hab).trans upd_at) rfl) hc ?_
 exact WL_th (W_false ((upd_off hbc).trans upd_at) h)
/-- The arm that is entered. -/
theorem ta_yes {id : Nat} {A B : Code} {X T : TypeId} {v : Value} [Conc P T] {x a b c : Nat} {t1 t2 t3 : TypeId} {p1 p2 p3 : String} {f1 f2 f3 : Array Edge} (hx : e x = some (.iface T v)) (hN : (Nat.blt a N && Nat.blt b N && Nat.blt c N && !Nat.beq b c && !Nat.beq a b) = true)
  (h : W P N A Q (upd (upd (upd e a (.tuple #[v, .bool true])) b (.bool true)) c v) w) :
  W P N (.seq (.region id #[⟨some a, .typeAssert (.tmp x) X T true, t1, p1, f1, none⟩, ⟨some b, .extract (.tmp a) 1, t2, p2, f2, none⟩, ⟨some c, .extract (.tmp a) 0, t3, p3, f3, none⟩] false) (.cond (.tmp b) A B)) Q e w := by
 simp only [Bool.and_eq_true, Bool.not_eq_true'] at hN
 obtain ⟨⟨⟨⟨ha, hb⟩, hc⟩, hbc⟩, hab⟩ := hN
 refine W_seq (W_reg ?_)
 refine s_pu (p_taYes hx) ha ?_
 refine s_pu (p_extract (vs := [v, .bool true]) (i := 1) upd_at rfl) hb ?_
 refine s_pu (p_extract (vs := [v, .bool true]) (i := 0) (v := v) ((upd_off hab).trans upd_at) rfl) hc ?_
 exact WL_th (W_true ((upd_off hbc).trans upd_at) h)
theorem th_ret {K : Env → World → Prop} (h : Q .ret e w) : Th K Q .ret e w := h
theorem bl_ret {i : Nat} (h : Q .ret e w) : Bl i Q .ret e w := h
/-! loads where a block is known -/
theorem q_ld {T : TypeId} [One P T] {x : Operand} {b o T' n : Nat} {f : Nat → Value} (hx : evo e x = some (.pointer (some ⟨b, o, none⟩))) (hb : w.heap[b]? = some (.cells (mkA n f) T' (0, 0))) (ho : Nat.blt o n = true) : At P N e (.load T x) w (f o) :=
 m_load1 hx (pt_cell hb o (Nat.le_of_ble_eq_true ho))
theorem q_ldA {T m : TypeId} [Agg P T m] {x : Operand} {b o T' n : Nat} {f : Nat → Value} (hx : evo e x = some (.pointer (some ⟨b, o, none⟩))) (hb : w.heap[b]? = some (.cells (mkA n f) T' (0, 0))) (ho : Nat.ble (o + m) n = true) : At P N e (.load T x) w (.agg (mkA m (sft f o))) :=
 m_loadA (n := m) hx fun i hi => pt_cell hb (o + i) (Nat.lt_of_lt_of_le (Nat.add_lt_add_left hi o) (Nat.le_of_ble_eq_true ho))
theorem q_ldW {T n : TypeId} [Agg P T n] {x : Operand} {b T' : Nat} {f : Nat → Value} (hx : evo e x = some (.pointer (some ⟨b, 0, none⟩))) (hb : w.heap[b]? = some (.cells (mkA n f) T' (0, 0))) : At P N e (.load T x) w (.agg (mkA n f)) :=
 m_loadA (n := n) hx fun i hi => by rw [Nat.zero_add]; exact pt_cell hb i hi
theorem kq_ld {T : TypeId} [One P T] {x : Operand} {b o T' n : Nat} {f : Nat → Value} (hb : w.heap[b]? = some (.cells (mkA n f) T' (0, 0))) (hx : evo e x = some (.pointer (some ⟨b, o, none⟩))) (ho : Nat.blt o n = true) (hN : Nat.blt d N = true) (h : WL P ops N rest Q (upd e d (f o)) w) :
  WL P ops N (⟨some d, .load T x, ty, pos, af, none⟩ :: rest) Q e w := s_at (q_ld hx hb ho) hN h
/-- A call that leaves all as it was. -/
theorem k_quiet {f : FuncId} [Fun P f] {xs : List Operand} {vs : List Value} {tys : Array TypeId} {R : Value → Prop} (hc : Quiet P f vs w R) (hs : St w0 F w G) (ha : Args e xs vs) (hN : Nat.blt d N = true)
  (h : ∀ v w', R v → St w0 F w' G → Keep (fun _ => False) w w' → WL P ops N rest Q (upd e d v) w') : WL P ops N (⟨some d, .call ⟨.value (.func f), xs.toArray, tys⟩, ty, pos, af, none⟩ :: rest) Q e w :=
 s_call hc ha hN fun v w' ⟨hr, hk⟩ => h v w' hr (hs.over hk) hk
/-- A call that brings new memory. -/
theorem k_fresh {f : FuncId} [Fun P f] {xs : List Operand} {vs : List Value} {tys : Array TypeId} {R : Value → List Assn → Prop} (hc : Fresh P f vs w R) (hs : St w0 F w G) (ha : Args e xs vs) (hN : Nat.blt d N = true)
  (h : ∀ v w' G1, R v G1 → St w0 F w' (G1 ++ G) → Keep (fun _ => False) w w' → WL P ops N rest Q (upd e d v) w') : WL P ops N (⟨some d, .call ⟨.value (.func f), xs.toArray, tys⟩, ty, pos, af, none⟩ :: rest) Q e w :=
 s_call hc ha hN fun v w' ⟨G1, S1, hr, hk, hs1, hn⟩ => h v w' G1 hr (hs.add hk hs1 hn) hk
theorem Quiet.mono {f : FuncId} {vs : List Value} {R R' : Value → Prop} (h : Quiet P f vs w R) (hr : ∀ v, R v → R' v) : Quiet P f vs w R' := CallsR.mono h fun v w' ⟨h1, h2⟩ => ⟨hr v h1, h2⟩
end
end Go.Proofs.YtmalghopogngoaaGreatDoor.MW
set_option linter.unusedVariables false
set_option linter.unusedSimpArgs false
namespace Go.Proofs.YtmalghopogngoaaGreatDoor.MW
open Go Go.RowKit
section
variable {P : Program} {N : Nat} {Q : Exit → Env → World → Prop} {e : Env} {w w0 : World} {ops : Array Oper} {l rest : List Oper} {F : Foot} {G G' G0 G1 : List Assn}
 {d : Nat} {ty : TypeId} {pos : String} {af : Array Edge}
theorem Sat.imp {A B : Assn} (hp : Put G A B G') (hi : ∀ w S, A.on w S → B.on w S) {S : Foot} (h : Sat w G S) : Sat w G' S := by
 induction hp generalizing S with
 | head => cases h with | cons ha hl hg hd hS => exact .cons (hi _ _ ha) hl hg hd hS
 | tail _ ih => cases h with | cons ha hl hg hd hS => exact .cons ha hl (ih hi hg) hd hS
theorem St.imp {A B : Assn} (h : St w0 F w G) (hp : Put G A B G') (hi : ∀ w S, A.on w S → B.on w S) : St w0 F w G' := by
 obtain ⟨S, hs, hF⟩ := h.sat
 exact ⟨h.keep, S, hs.imp hp hi, hF⟩
theorem pt_row {b T k n sz : Nat} {f : Nat → Value} (hk : k = n * sz) (hn : n ≤ maxLen) (w : World) (S : Foot) (h : (pt b T k f).on w S) : (row (.slice (some ⟨b, 0, none⟩) n n) T sz n f).on w S := by
 subst hk
 exact .inr ⟨b, n, _, rfl, h.1, h.2, Nat.le_refl _, hn, mkA_size _ _, fun i hi => mkA_get _ _ _ hi⟩
theorem pt_to {b T n : Nat} {f g : Nat → Value} (h : ∀ i, i < n → f i = g i) (w : World) (S : Foot) (hp : (pt b T n f).on w S) : (pt b T n g).on w S := by rwa [pt_congr h] at hp
theorem row_to {v : Value} {T sz n : Nat} {f g : Nat → Value} (h : ∀ i, i < n * sz → f i = g i) (w : World) (S : Foot) (hp : (row v T sz n f).on w S) : (row v T sz n g).on w S := row_congr h hp
theorem maxLen_big {n : Nat} (h : Nat.ble n 1000000 = true) : n ≤ maxLen := by
 have := Nat.le_of_ble_eq_true h
 unfold maxLen
 omega
theorem row_one {v : Value} {T sz n : Nat} {f : Nat → Value} (h : ∃ S, (row v T sz n f).on w S) : v.oneCell' = true := by
 obtain ⟨S, h⟩ := h
 rcases h with ⟨rfl, _⟩ | ⟨g', cap, cur, rfl, _⟩ <;> rfl
/-- append of what a row holds. -/
theorem k_appR {T el sz bytes m : Nat} [hE : Elt P T el sz bytes] {x y : Operand} {v u : Value} {n : Nat} {f g : Nat → Value} (hs : St w0 F w (row v el sz n f :: G)) (hx : evo e x = some v) (hy : evo e y = some u) (hp : Pick G (row u el sz m g) G0)
  (h1 : ∀ i, i < m * sz → (g i).oneCell' = true) (hlen : n + m ≤ 9223372036854775807) (hby : (n + m) * bytes ≤ 140737488355328) (hN : Nat.blt d N = true)
  (h : ∀ v' w', St w0 F w' (row v' el sz (n + m) (cat f (n * sz) g) :: G) → WL P ops N rest Q (upd e d v') w') : WL P ops N (⟨some d, .call ⟨.builtin .append, #[x, y], #[T, T]⟩, ty, pos, af, none⟩ :: rest) Q e w := by
 obtain ⟨S, hr⟩ := hs.pick (.tail hp)
 by_cases hm : m = 0
 ·
  subst hm
  rcases hr with ⟨rfl, _, _⟩ | ⟨g', cap, cur, rfl, h2, h3, h4, h5, h6, h7⟩
  ·
   refine s_mk (a_append0 (P := P) (N := N) (T := T) (m := 0) hs hx hy) hN (h _ _ (hs.imp .head fun w S hr => ?_))
   simp only [Nat.add_zero]
   refine row_congr (fun i hi => ?_) hr
   unfold cat
   have : Nat.blt i (n * sz) = true := Nat.ble_eq_true_of_le hi
   rw [this]
   rfl
  ·
   obtain ⟨v', w', hm', hs'⟩ := a_appendF (P := P) (N := N) (T := T) hs hx hy (g := g) (fun j hj => by omega) h1 hlen hby
   exact s_mk hm' hN (h _ w' hs')
 ·
  obtain ⟨g', cap, rfl, hc⟩ := row_cell hr (by omega)
  obtain ⟨v', w', hm', hs'⟩ := a_appendF (P := P) (N := N) (T := T) hs hx hy hc h1 hlen hby
  exact s_mk hm' hN (h _ w' hs')
/-! a call that is handed the first assertions -/
theorem Sat.split {S : Foot} (h : Sat w (G1 ++ G) S) : ∃ S1 S2, Sat w G1 S1 ∧ Sat w G S2 ∧ (∀ b, S1 b → ¬ S2 b) ∧ ∀ b, S b ↔ S1 b ∨ S2 b := by
 induction G1 generalizing S with
 | nil => exact ⟨fun _ => False, S, .nil fun _ => id, h, fun _ => False.elim, fun b => ⟨.inr, fun h => h.elim False.elim id⟩⟩
 | cons A G1 ih =>
  cases h with
  | cons ha hl hg hd hS =>
   rename_i SA SR
   obtain ⟨S1, S2, h1, h2, h3, h4⟩ := ih hg
   refine ⟨fun b => SA b ∨ S1 b, S2, .cons ha hl h1 (fun b hb hb' => hd b hb ((h4 b).2 (.inl hb'))) (fun _ => Iff.rfl), h2, ?_, ?_⟩
   ·
    rintro b (h | h) h'
    ·
     exact hd b h ((h4 b).2 (.inr h'))
    ·
     exact h3 b h h'
   ·
    intro b
    rw [hS b, h4 b, or_assoc]
theorem Sat.append {S1 S2 : Foot} (h1 : Sat w G1 S1) (h2 : Sat w G S2) (hd : ∀ b, S1 b → ¬ S2 b) : ∃ S, Sat w (G1 ++ G) S ∧ ∀ b, S b ↔ S1 b ∨ S2 b := by
 induction h1 with
 | nil h0 => exact ⟨S2, h2, fun b => ⟨.inr, fun h => h.elim (fun h => absurd h (h0 b)) id⟩⟩
 | cons ha hl hg hda hS ih =>
  rename_i A1 G3 S0 SX SY
  obtain ⟨S', p, q⟩ := ih fun b h1 h2 => hd b ((hS b).2 (.inr h1)) h2
  refine ⟨fun b => SX b ∨ S' b, .cons ha hl p (fun b h1 h2 => ?_) (fun _ => Iff.rfl), fun b => ?_⟩
  ·
   rcases (q b).1 h2 with h3 | h3
   ·
    exact hda b h1 h3
   ·
    exact hd b ((hS b).2 (.inl h1)) h3
  ·
   show SX b ∨ S' b ↔ S0 b ∨ S2 b
   rw [q b, hS b, or_assoc]
theorem St.calls (h : St w0 F w (G1 ++ G)) : ∃ S, Sat w G1 S ∧ ∀ w' G2 S', Keep S w w' → Sat w' G2 S' → (∀ b, S' b → S b ∨ w.heap.size ≤ b) → St w0 F w' (G2 ++ G) := by
 obtain ⟨S, hsat, hF⟩ := h.sat
 obtain ⟨S1, S2, h1, h2, hd, hS⟩ := hsat.split
 refine ⟨S1, h1, fun w' G2 S' hk hs' hsub => ?_⟩
 have hkeep : Keep F w0 w' := h.keep.trans hk fun b hb => hF b ((hS b).2 (.inl hb))
 have h2' : Sat w' G S2 := h2.loc (fun b hb => hk.block b (h2.lt b hb) (fun h => hd b h hb)) hk.size
 obtain ⟨S'', p, q⟩ := hs'.append h2' fun b hb hb' => (hsub b hb).elim (fun h => hd b h hb') (fun h => by have := h2.lt b hb'; omega)
 refine ⟨hkeep, S'', p, fun b hb => ?_⟩
 rcases (q b).1 hb with hb | hb
 ·
  rcases hsub b hb with hb | hb
  ·
   exact hF b ((hS b).2 (.inl hb))
  ·
   exact .inr (Nat.le_trans h.keep.size hb)
 ·
  exact hF b ((hS b).2 (.inr hb))
theorem k_spec {f : FuncId} [Fun P f] {xs : List Operand} {vs : List Value} {tys : Array TypeId} (G1 : List Assn) {R : Value → List Assn → Prop} (hc : Spec P f vs.toArray G1 R) (hs : St w0 F w (G1 ++ G)) (ha : Args e xs vs) (hN : Nat.blt d N = true)
  (h : ∀ v w' G2, R v G2 → St w0 F w' (G2 ++ G) → WL P ops N rest Q (upd e d v) w') : WL P ops N (⟨some d, .call ⟨.value (.func f), xs.toArray, tys⟩, ty, pos, af, none⟩ :: rest) Q e w := by
 obtain ⟨S, hsat, hback⟩ := hs.calls
 exact s_call (hc w S hsat) ha hN fun v w' ⟨G', S', hr, hk, hs', hn⟩ => h v w' G' hr (hback w' G' S' hk hs' hn)
theorem k_specI {T : TypeId} {f : FuncId} {name : String} (hm : methodB P T name f = true) {x : Operand} {v : Value} {xs : List Operand} {vs : List Value} {tys : Array TypeId} (G1 : List Assn) {R : Value → List Assn → Prop} (hc : Spec P f (v :: vs).toArray G1 R) (hs : St w0 F w (G1 ++ G)) (hx : evo e x = some (.iface T v)) (ha : Args e xs vs) (hN : Nat.blt d N = true)
  (h : ∀ v w' G2, R v G2 → St w0 F w' (G2 ++ G) → WL P ops N rest Q (upd e d v) w') : WL P ops N (⟨some d, .call ⟨.invoke x name, xs.toArray, tys⟩, ty, pos, af, none⟩ :: rest) Q e w := by
 obtain ⟨S, hsat, hback⟩ := hs.calls
 exact s_invoke hm (hc w S hsat) hx ha hN fun v w' ⟨G', S', hr, hk, hs', hn⟩ => h v w' G' hr (hback w' G' S' hk hs' hn)
theorem kq_ldv {T : TypeId} [One P T] {x : Operand} {b o T' n : Nat} {f : Nat → Value} {v : Value} (hb : w.heap[b]? = some (.cells (mkA n f) T' (0, 0))) (hv : f o = v) (hx : evo e x = some (.pointer (some ⟨b, 0 + o, none⟩))) (ho : o < n) (hN : Nat.blt d N = true) (h : WL P ops N rest Q (upd e d v) w) :
  WL P ops N (⟨some d, .load T x, ty, pos, af, none⟩ :: rest) Q e w := by
 subst hv
 rw [Nat.zero_add] at hx
 exact s_at (m_load1 hx (pt_cell hb o ho)) hN h
theorem kc_ldv {T : TypeId} [One P T] {x : Operand} {a : Addr} {v : Value} (hc : w.cell? a = some v) (hx : evo e x = some (.pointer (some a))) (ha : a.spot = none) (hN : Nat.blt d N = true) (h : WL P ops N rest Q (upd e d v) w) :
  WL P ops N (⟨some d, .load T x, ty, pos, af, none⟩ :: rest) Q e w := by
 obtain ⟨b, o, s⟩ := a
 obtain rfl : s = none := ha
 exact s_at (m_load1 hx hc) hN h
/-- Two assertions as one, and none lost. -/
def star (A B : Assn) : Assn where
 on w S := ∃ S1 S2, A.on w S1 ∧ B.on w S2 ∧ (∀ b, S1 b → ¬ S2 b) ∧ ∀ b, S b ↔ S1 b ∨ S2 b
 loc := fun w w' S ⟨S1, S2, h1, h2, h3, h4⟩ hk => ⟨S1, S2, A.loc _ _ _ h1 fun b hb => hk b ((h4 b).2 (.inl hb)), B.loc _ _ _ h2 fun b hb => hk b ((h4 b).2 (.inr hb)), h3, h4⟩
theorem St.star {A B : Assn} (h : St w0 F w (A :: B :: G)) : St w0 F w (star A B :: G) := h.join fun w S1 S2 ha hb hd => ⟨S1, S2, ha, hb, hd, fun _ => Iff.rfl⟩
theorem g_skipU {d : Nat} {op : Op} {ty : TypeId} {pos : String} {af : Array Edge} {j dj : Nat} {c : Bool} (hj : (ops[j]?).bind (·.dst) = some dj) (hN : Nat.blt dj N = true) (hv : e dj = some undef) (hd : Nat.blt d N = true)
  (h : WL P ops N rest Q (upd e d undef) w) : WL P ops N (⟨some d, op, ty, pos, af, some (j, c)⟩ :: rest) Q e w := by
 intro a ha
 have hy : yielded ops a.tmps j = none := by
  have h := ha.get _ _ hv
  have hlt : dj < a.tmps.size := by rw [ha.size]; exact Nat.le_of_ble_eq_true hN
  rw [Array.getD_eq_getD_getElem?, Array.getElem?_eq_getElem hlt] at h
  simp at h
  unfold yielded
  rw [hj]
  simp [Array.getElem?_eq_getElem hlt, h, undef]
 unfold wpList
 rw [if_neg (by simp [Region.wanted, hy])]
 exact h _ (ha.put hd _)
theorem W_bool (t : Nat) {c : Code} {b : Bool} (hb : e t = some (.bool b)) (h1 : b = true → W P N c Q (upd e t (.bool true)) w) (h2 : b = false → W P N c Q (upd e t (.bool false)) w) : W P N c Q e w := by
 cases b with
 | true => exact W_forget (Ext.upd_same hb) (h1 rfl)
 | false => exact W_forget (Ext.upd_same hb) (h2 rfl)
theorem St.cut (h : St w0 F w (G1 ++ G)) : St w0 F w G1 := by
 obtain ⟨S, hs, hF⟩ := h.sat
 obtain ⟨S1, S2, h1, h2, hd, hS⟩ := hs.split
 exact ⟨h.keep, S1, h1, fun b hb => hF b ((hS b).2 (.inl hb))⟩
theorem St.first2 {A B : Assn} (h : St w0 F w (A :: B :: G)) : St w0 F w [A, B] := St.cut (G1 := [A, B]) h
theorem St.first1 {A : Assn} (h : St w0 F w (A :: G)) : St w0 F w [A] := St.cut (G1 := [A]) h
/-- A function without a body that only yields. -/
theorem p_ext {f : FuncId} {fn : Func} {ef : Array Value → Sem Value} (hf : P.funcs[f]? = some fn) (hname : (fn.name == "runtime.NumGoroutine") = false) (hb : fn.body.isNone = true) (hn : Extern.findNext fn = none) (he : Extern.find fn = some ef)
  {xs : List Operand} {vs : List Value} {tys : Array TypeId} {v : Value} (hA : Args e xs vs) (hv : ∀ w, (ef vs.toArray).run P w = .ok v w) : Pu P N e (.call ⟨.value (.func f), xs.toArray, tys⟩) v := fun a ha w d ty pos af g => by
 have hm := hA.map ha
 have hc := run_callFunc_extern hf hname hb hn he vs.toArray w
 simp only [execOp, resolve, Act.eval, Deferred.ofValue, List.map_toArray]
 rw [show List.map a.eval xs = vs from hm]
 simp [invoke, hc, hv]
/-- What an interface of unknown content holds, asked for as a float. -/
theorem k_taF {x : Operand} {X U : TypeId} {u : Value} [Conc P 157] [ZeroV P 157 (.float .f64 0)] (hx : evo e x = some (.iface U u)) (hU : (U = 157 ∧ ∃ n, u = .float .f64 n) ∨ Nat.beq U 157 = false) (hN : Nat.blt d N = true)
  (h : ∀ n b, WL P ops N rest Q (upd e d (.tuple #[.float .f64 n, .bool b])) w) : WL P ops N (⟨some d, .typeAssert x X 157 true, ty, pos, af, none⟩ :: rest) Q e w := by
 rcases hU with ⟨rfl, n, rfl⟩ | hU
 ·
  exact s_pu (p_taYes hx) hN (h _ _)
 ·
  exact s_pu (p_taNo hx hU) hN (h _ _)
end
end Go.Proofs.YtmalghopogngoaaGreatDoor.MW
set_option linter.unusedVariables false
set_option linter.unusedSimpArgs false
namespace Go.Proofs.YtmalghopogngoaaGreatDoor.MW
open Go Go.RowKit
def bare (a : Act) : Act := { a with defers := [] }
def ShD (D : List Deferred) (N : Nat) (e : Env) (a : Act) : Prop := Sh N e (bare a) ∧ a.defers = D
theorem bare_eval (a : Act) : (bare a).eval = a.eval := rfl
theorem bare_put (a : Act) (d : Option Tmp) (v : Value) : bare (a.put d v) = (bare a).put d v := by cases d <;> rfl
theorem put_defers (a : Act) (d : Option Tmp) (v : Value) : (a.put d v).defers = a.defers := by cases d <;> rfl
theorem ShD.put {D : List Deferred} {N : Nat} {e : Env} {a : Act} (h : ShD D N e a) {d : Nat} (hd : Nat.blt d N = true) (v : Value) : ShD D N (upd e d v) (a.put (some d) v) :=
 ⟨by rw [bare_put]; exact h.1.put hd v, by rw [put_defers]; exact h.2⟩
theorem ShD.ext {D : List Deferred} {N : Nat} {e e' : Env} {a : Act} (h : ShD D N e a) (hx : Ext e e') : ShD D N e' a := ⟨h.1.ext hx, h.2⟩
def WD (P : Program) (D : List Deferred) (N : Nat) (c : Code) (Q : Exit → List Deferred → Env → World → Prop) (e : Env) (w : World) : Prop :=
 ∀ a, ShD D N e a → c.wp P (fun x a' w' => ∃ D' e', ShD D' N e' a' ∧ Q x D' e' w') a w
def WLD (P : Program) (ops : Array Oper) (D : List Deferred) (N : Nat) (l : List Oper) (Q : Exit → List Deferred → Env → World → Prop) (e : Env) (w : World) : Prop :=
 ∀ a, ShD D N e a → wpList P ops (fun x a' w' => ∃ D' e', ShD D' N e' a' ∧ Q x D' e' w') l a w
def ThD (K : List Deferred → Env → World → Prop) (Q : Exit → List Deferred → Env → World → Prop) : Exit → List Deferred → Env → World → Prop
 | .normal, D, e, w => K D e w
 | x, D, e, w => Q x D e w
section
variable {P : Program} {D : List Deferred} {N : Nat} {Q : Exit → List Deferred → Env → World → Prop} {e : Env} {w w0 : World} {ops : Array Oper} {rest : List Oper} {F : Foot} {G G' G1 : List Assn}
 {d : Nat} {ty : TypeId} {pos : String} {af : Array Edge} {op : Op} {v : Value} {w' : World}
theorem WD_seq {x y : Code} (h : WD P D N x (ThD (fun D e w => WD P D N y Q e w) Q) e w) : WD P D N (.seq x y) Q e w := fun a ha =>
 wp_seq (wp_mono (h a ha) fun ex a' w' ⟨D', e', s, q⟩ => by
  cases ex <;> first | exact q a' s | exact ⟨D', e', s, q⟩)
theorem WD_ret (h : Q .ret D e w) : WD P D N .ret Q e w := fun _ ha => wp_ret ⟨D, e, ha, h⟩
theorem WD_skip (h : Q .normal D e w) : WD P D N .skip Q e w := fun _ ha => wp_skip ⟨D, e, ha, h⟩
theorem ShD.eval {a : Act} (h : ShD D N e a) {x : Operand} {v : Value} (hx : evo e x = some v) : a.eval x = v := by
 rw [← bare_eval]; exact h.1.eval hx
theorem WD_true {c : Operand} {x y : Code} (hc : evo e c = some (.bool true)) (h : WD P D N x Q e w) : WD P D N (.cond c x y) Q e w := fun a ha => wp_cond_true (ha.eval hc) (h a ha)
theorem WD_false {c : Operand} {x y : Code} (hc : evo e c = some (.bool false)) (h : WD P D N y Q e w) : WD P D N (.cond c x y) Q e w := fun a ha => wp_cond_false (ha.eval hc) (h a ha)
theorem WD_if {c : Operand} {x y : Code} {b : Bool} (hc : evo e c = some (.bool b)) (ht : b = true → WD P D N x Q e w) (hf : b = false → WD P D N y Q e w) : WD P D N (.cond c x y) Q e w := by
 cases b with
 | true => exact WD_true hc (ht rfl)
 | false => exact WD_false hc (hf rfl)
theorem WD_reg {id : Nat} {l : List Oper} (h : WLD P l.toArray D N l Q e w) : WD P D N (.region id l.toArray false) Q e w := fun a ha => wp_region_lit (h a ha)
theorem WLD_th {K : List Deferred → Env → World → Prop} (h : K D e w) : WLD P ops D N [] (ThD K Q) e w := fun a ha => wpList_nil ⟨D, e, ha, h⟩
theorem sd_val {o : Oper} (hg : o.guard = none) (hd : o.dst = some d) (hN : Nat.blt d N = true) (hrun : ∀ a, Sh N e a → (execOp a.eval o).run P w = .ok (.value v) w') (h : WLD P ops D N rest Q (upd e d v) w') : WLD P ops D N (o :: rest) Q e w := by
 intro a ha
 unfold wpList
 rw [if_pos (by simp [Region.wanted, hg])]
 refine .inl ?_
 unfold Oper.wp
 rw [← bare_eval, hrun _ ha.1, Oper.upon_value, hd]
 exact h _ (ha.put hN v)
theorem sd_at (hp : At P N e op w v) (hN : Nat.blt d N = true) (h : WLD P ops D N rest Q (upd e d v) w) : WLD P ops D N (⟨some d, op, ty, pos, af, none⟩ :: rest) Q e w :=
 sd_val rfl rfl hN (fun a ha => hp a ha _ _ _ _ _) h
theorem sd_pu (hp : Pu P N e op v) (hN : Nat.blt d N = true) (h : WLD P ops D N rest Q (upd e d v) w) : WLD P ops D N (⟨some d, op, ty, pos, af, none⟩ :: rest) Q e w :=
 sd_val rfl rfl hN (fun a ha => hp a ha _ _ _ _ _ _) h
theorem sd_mk (hp : Mk P N e op w v w') (hN : Nat.blt d N = true) (h : WLD P ops D N rest Q (upd e d v) w') : WLD P ops D N (⟨some d, op, ty, pos, af, none⟩ :: rest) Q e w :=
 sd_val rfl rfl hN (fun a ha => hp a ha _ _ _ _ _) h
theorem sd_wr (hp : Wr P N e op w w') (h : WLD P ops D N rest Q e w') : WLD P ops D N (⟨none, op, ty, pos, af, none⟩ :: rest) Q e w := by
 intro a ha
 unfold wpList
 rw [if_pos (by simp [Region.wanted])]
 refine .inl ?_
 unfold Oper.wp
 rw [← bare_eval, hp _ ha.1, Oper.upon_skip]
 exact h _ ha
theorem sd_call {f : FuncId} [Fun P f] {xs : List Operand} {vs : List Value} {tys : Array TypeId} {R : Value → World → Prop} (hc : CallsR P f vs.toArray w R) (hA : Args e xs vs) (hN : Nat.blt d N = true)
  (h : ∀ v w', R v w' → WLD P ops D N rest Q (upd e d v) w') : WLD P ops D N (⟨some d, .call ⟨.value (.func f), xs.toArray, tys⟩, ty, pos, af, none⟩ :: rest) Q e w := by
 intro a ha
 unfold wpList
 rw [if_pos (by simp [Region.wanted])]
 refine .inl ?_
 unfold Oper.wp
 rw [← bare_eval, call_run hA ha.1, Oper.upon_enter]
 refine Calls.mono hc ?_
 rintro en w' ⟨v, rfl, hv⟩
 exact h v w' hv _ (ha.put hN v)
theorem gd_take {dst : Option Tmp} {j dj : Nat} {b : Bool} (hj : (ops[j]?).bind (·.dst) = some dj) (hN : Nat.blt dj N = true) (hv : e dj = some (.bool b))
  (h : WLD P ops D N (⟨dst, op, ty, pos, af, none⟩ :: rest) Q e w) : WLD P ops D N (⟨dst, op, ty, pos, af, some (j, b)⟩ :: rest) Q e w := by
 intro a ha
 have h' := h a ha
 have hy : yielded ops a.tmps j = some b := yielded_of (a := bare a) ha.1 hj hN hv
 unfold wpList at h' ⊢
 rw [if_pos (by simp [Region.wanted])] at h'
 rw [if_pos (by simp [Region.wanted, hy])]
 exact h'
theorem sd_makeFunc {f : FuncId} {xs : List Operand} {vs : List Value} (hA : Args e xs vs) (hN : Nat.blt d N = true) (h : WLD P ops D N rest Q (upd e d (.func (.func f) #[] vs.toArray)) w) :
  WLD P ops D N (⟨some d, .makeFunc (.func f) #[] xs.toArray, ty, pos, af, none⟩ :: rest) Q e w := by
 refine sd_val (w' := w) rfl rfl hN (fun a ha => ?_) h
 have hm := hA.map ha
 simp only [execOp, List.map_toArray]
 rw [show List.map a.eval xs = vs from hm]
 simp [Instr.makeFunc]
theorem sd_defer {x : Operand} {f : FuncId} {cap : Array Value} (hx : evo e x = some (.func (.func f) #[] cap)) (h : WLD P ops ({ target := .fn (.func f) cap, args := #[] } :: D) N rest Q e w) :
  WLD P ops D N (⟨none, .defer ⟨.value x, #[], #[]⟩, ty, pos, af, none⟩ :: rest) Q e w := by
 intro a ha
 have he := ha.eval hx
 unfold wpList
 rw [if_pos (by simp [Region.wanted])]
 refine .inl ?_
 unfold Oper.wp
 have hr : (execOp a.eval ⟨none, .defer ⟨.value x, #[], #[]⟩, ty, pos, af, none⟩).run P w = .ok (.defer { target := .fn (.func f) cap, args := #[] }) w := by
  simp [execOp, resolve, he, Deferred.ofValue]
 rw [hr, Oper.upon_defer]
 exact h _ ⟨ha.1, by show _ :: a.defers = _; rw [ha.2]⟩
theorem kd_ldW {T n : TypeId} [Agg P T n] {x : Operand} {b T' : Nat} {f : Nat → Value} (hs : St w0 F w G) (hx : evo e x = some (.pointer (some ⟨b, 0, none⟩))) (hp : Pick G (pt b T' n f) G') (hN : Nat.blt d N = true) (h : WLD P ops D N rest Q (upd e d (.agg (mkA n f))) w) :
  WLD P ops D N (⟨some d, .load T x, ty, pos, af, none⟩ :: rest) Q e w := sd_at (a_ldW hs hx hp) hN h
theorem kd_st {T : TypeId} [One P T] {x y : Operand} {b o T' n : Nat} {f : Nat → Value} {v : Value} (hs : St w0 F w G) (hx : evo e x = some (.pointer (some ⟨b, o, none⟩))) (hy : evo e y = some v) (hp : Put G (pt b T' n f) (pt b T' n (updC f o v)) G') (hv : v.oneCell' = true) (ho : Nat.blt o n = true)
  (h : ∀ w', St w0 F w' G' → WLD P ops D N rest Q e w') : WLD P ops D N (⟨none, .store T x y, ty, pos, af, none⟩ :: rest) Q e w := by
 obtain ⟨G0, hpk⟩ := hp.pick
 obtain ⟨w', hr, hs'⟩ := a_st (P := P) (N := N) (T := T) hs hx hy hv hp hpk ho
 exact sd_wr hr (h w' hs')
theorem kd_stW {T n : TypeId} [Agg P T n] {x y : Operand} {b T' : Nat} {f g : Nat → Value} (hs : St w0 F w G) (hx : evo e x = some (.pointer (some ⟨b, 0, none⟩))) (hy : evo e y = some (.agg (mkA n g))) (hp : Put G (pt b T' n f) (pt b T' n g) G') (hv : ∀ i, i < n → (g i).oneCell' = true)
  (h : ∀ w', St w0 F w' G' → WLD P ops D N rest Q e w') : WLD P ops D N (⟨none, .store T x y, ty, pos, af, none⟩ :: rest) Q e w := by
 obtain ⟨G0, hpk⟩ := hp.pick
 obtain ⟨w', hr, hs'⟩ := a_stW (P := P) (N := N) (T := T) hs hx hy hv hp hpk
 exact sd_wr hr (h w' hs')
theorem kd_alloc {T : TypeId} {z : List Value} [Zero P T z] (hs : St w0 F w G) (hN : Nat.blt d N = true) (h : ∀ b w', St w0 F w' (pt b T z.length (cl z) :: G) → WLD P ops D N rest Q (upd e d (.pointer (some ⟨b, 0, none⟩))) w') :
  WLD P ops D N (⟨some d, .alloc T, ty, pos, af, none⟩ :: rest) Q e w := by
 obtain ⟨w', hr, hs'⟩ := a_alloc (P := P) (N := N) (e := e) (T := T) hs
 exact sd_mk hr hN (h _ w' hs')
theorem kd_box {T n : TypeId} {x : Operand} {f : Nat → Value} (hs : St w0 F w G) (hx : evo e x = some (.agg (mkA n f))) (hN : Nat.blt d N = true) (h : ∀ b w', St w0 F w' (pt b T n f :: G) → WLD P ops D N rest Q (upd e d (.pointer (some ⟨b, 0, none⟩))) w') :
  WLD P ops D N (⟨some d, .box T x, ty, pos, af, none⟩ :: rest) Q e w := by
 obtain ⟨w', hr, hs'⟩ := a_box (P := P) (N := N) (T := T) hs hx
 exact sd_mk hr hN (h _ w' hs')
theorem kd_quiet {f : FuncId} [Fun P f] {xs : List Operand} {vs : List Value} {tys : Array TypeId} {R : Value → Prop} (hc : Quiet P f vs w R) (hs : St w0 F w G) (ha : Args e xs vs) (hN : Nat.blt d N = true)
  (h : ∀ v w', R v → St w0 F w' G → Keep (fun _ => False) w w' → WLD P ops D N rest Q (upd e d v) w') : WLD P ops D N (⟨some d, .call ⟨.value (.func f), xs.toArray, tys⟩, ty, pos, af, none⟩ :: rest) Q e w :=
 sd_call hc ha hN fun v w' ⟨hr, hk⟩ => h v w' hr (hs.over hk) hk
theorem kd_fresh {f : FuncId} [Fun P f] {xs : List Operand} {vs : List Value} {tys : Array TypeId} {R : Value → List Assn → Prop} (hc : Fresh P f vs w R) (hs : St w0 F w G) (ha : Args e xs vs) (hN : Nat.blt d N = true)
  (h : ∀ v w' G1, R v G1 → St w0 F w' (G1 ++ G) → Keep (fun _ => False) w w' → WLD P ops D N rest Q (upd e d v) w') : WLD P ops D N (⟨some d, .call ⟨.value (.func f), xs.toArray, tys⟩, ty, pos, af, none⟩ :: rest) Q e w :=
 sd_call hc ha hN fun v w' ⟨G1, S1, hr, hk, hs1, hn⟩ => h v w' G1 hr (hs.add hk hs1 hn) hk
theorem kd_spec {f : FuncId} [Fun P f] {xs : List Operand} {vs : List Value} {tys : Array TypeId} (G1 : List Assn) {R : Value → List Assn → Prop} (hc : Spec P f vs.toArray G1 R) (hs : St w0 F w (G1 ++ G)) (ha : Args e xs vs) (hN : Nat.blt d N = true)
  (h : ∀ v w' G2, R v G2 → St w0 F w' (G2 ++ G) → WLD P ops D N rest Q (upd e d v) w') : WLD P ops D N (⟨some d, .call ⟨.value (.func f), xs.toArray, tys⟩, ty, pos, af, none⟩ :: rest) Q e w := by
 obtain ⟨S, hsat, hback⟩ := hs.calls
 exact sd_call (hc w S hsat) ha hN fun v w' ⟨G', S', hr, hk, hs', hn⟩ => h v w' G' hr (hback w' G' S' hk hs' hn)
theorem kdc_ldv {T : TypeId} [One P T] {x : Operand} {a : Addr} {v : Value} (hc : w.cell? a = some v) (hx : evo e x = some (.pointer (some a))) (ha : a.spot = none) (hN : Nat.blt d N = true) (h : WLD P ops D N rest Q (upd e d v) w) :
  WLD P ops D N (⟨some d, .load T x, ty, pos, af, none⟩ :: rest) Q e w := by
 obtain ⟨b, o, s⟩ := a
 obtain rfl : s = none := ha
 exact sd_at (m_load1 hx hc) hN h
/-- The whole of a function with one call deferred, that comes to it by 'return'. -/
def QfD (P : Program) (N : Nat) (fn : Func) (R : Value → World → Prop) : Exit → List Deferred → Env → World → Prop
 | .ret, D, e, w => ∃ f cap w', D = [{ target := .fn (.func f) cap, args := #[] }] ∧ (∃ g, P.funcs[f]? = some g ∧ g.name ≠ "runtime.NumGoroutine" ∧ g.body.isNone = false) ∧
   CallsD P f cap .returning w (fun en u w2 => (∃ v, en = .returned v) ∧ u = .returning ∧ w2 = w') ∧ ∃ v, (∀ a, Sh N e a → (results fn a.tmps).run P w' = .ok v w') ∧ R v w'
 | _, _, _, _ => False
theorem calls_WD {f : FuncId} {fn : Func} {c : Code} {args : List Value} {R : Value → World → Prop} (hf : P.funcs[f]? = some fn) (hb : fn.body = some c) (hN : fn.ntmps = N) (hle : Nat.ble args.length N = true)
  (h : WD P [] N c (QfD P N fn R) (argE args 0) w) : CallsR P f args.toArray w R := by
 have hle' := Nat.le_of_ble_eq_true hle
 refine calls_of_wp_defers hf hb (wp_mono (h _ ⟨⟨by simp [bare, hN]; omega, rfl, fun t v ht => ?_⟩, rfl⟩) fun x a' w' ⟨D', e', s, q⟩ => ?_)
 ·
  obtain ⟨_, h2⟩ := argE_get args 0 t v ht
  have hlt : t < args.length := (List.getElem?_eq_some_iff.1 h2).1
  show (args.toArray ++ _ : Array Value).getD t undef = v
  rw [Array.getD_eq_getD_getElem?, Array.getElem?_append_left (by simpa using hlt)]
  rw [Nat.sub_zero] at h2
  simp [h2]
 ·
  cases x with
  | ret =>
   obtain ⟨g, cap, w2, rfl, ⟨gf, hg, hgn, hgb⟩, hcall, v, hr, hR⟩ := q
   show Leaves P fn a'.tmps _ a'.defers .returning w'
   rw [s.2]
   have hgb' : gf.body ≠ none := by intro h; simp [h] at hgb
   refine leaves_cons (by simp) (f := g) (args := cap) (by simp [invoke, callFunc, hg, hgn, hgb']) ?_
   refine CallsD.mono hcall ?_
   rintro en u w3 ⟨⟨v', rfl⟩, rfl, rfl⟩
   exact ⟨v, hr (bare a') s.1, v, rfl, hR⟩
  | normal => exact q.elim
  | exit i => exact q.elim
  | goto l => exact q.elim
  | panic ch => exact q.elim
  | outgrown => exact q.elim
end
end Go.Proofs.YtmalghopogngoaaGreatDoor.MW
