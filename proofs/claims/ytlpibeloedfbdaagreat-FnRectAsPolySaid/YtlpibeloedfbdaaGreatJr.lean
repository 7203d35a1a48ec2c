import Derived.Orders
import Derived.Below
import Derived.Laws.Tables
set_option linter.unusedSimpArgs false
set_option linter.unusedVariables false
/-! A region that draws its order, each operation shown once, in whatever order they come. -/
namespace JR
open Go Go.RowKit

/-- what was there stays -/
abbrev Ext (w w' : World) : Prop := Below w.heap.size w w'

theorem Ext.refl (w : World) : Ext w w := Below.refl _ _
theorem Ext.trans {a b c : World} (h : Ext a b) (k : Ext b c) : Ext a c := Below.trans h (k.mono h.size)

/-- what is known of an operation's value (it made the blocks from number l up to h), of other slots and of the world, once it has come -/
structure Ent where
  E : Value → Nat → Nat → Act → World → Prop
  sl : List Nat
  old : List Nat
  still : Bool
  news : Bool
  pre : World → Prop := fun _ => True
  hsl : ∀ v l h a a' w, (∀ t, t ∈ sl → a.eval (.tmp t) = a'.eval (.tmp t)) → E v l h a w → E v l h a' w
  hext : ∀ v l h a w w', h ≤ w.heap.size → Ext w w' → E v l h a w → E v l h a w'
  hstill : still = true → ∀ v l h a w w', E v l h a w → E v l h a w'
  hnews : news = true → ∀ v l h a w, E v l h a w → ∃ b, v = .pointer (some ⟨b, 0, none⟩) ∧ l ≤ b ∧ b < h
  hrow : ∀ v l h a w b cells, (b < l ∨ h ≤ b) → (∀ t, t ∈ sl → a.eval (.tmp t) ≠ .pointer (some ⟨b, 0, none⟩)) → b ∉ old → E v l h a w → E v l h a (w.setRow b cells)
  hpext : ∀ w w', Ext w w' → pre w → pre w'
  hprow : ∀ w b cells, b ∉ old → pre w → pre (w.setRow b cells)

theorem setRow_other {w : World} {b k : Nat} {cells : Array Value} (h : k ≠ b) : (w.setRow b cells).heap[k]? = w.heap[k]? := by
  unfold World.setRow
  simp only [Array.getElem?_modify]
  rw [if_neg (by omega)]

theorem setRow_same {w : World} {b : Nat} {old cells : Array Value} {T : TypeId} (h : w.heap[b]? = some (.cells old T (0, 0))) :
    (w.setRow b cells).heap[b]? = some (.cells cells T (0, 0)) := by
  unfold World.setRow
  simp [Array.getElem?_modify, h]

theorem setRow_size (w : World) (b : Nat) (cells : Array Value) : (w.setRow b cells).heap.size = w.heap.size := by
  unfold World.setRow; simp

theorem lt_of_some {w : World} {b : Nat} {x : Obj} (h : w.heap[b]? = some x) : b < w.heap.size := by
  rcases Nat.lt_or_ge b w.heap.size with h' | h'
  · exact h'
  · rw [Array.getElem?_eq_none h'] at h; cases h

def Ent.val (x : Value) : Ent where
  E := fun v _ _ _ _ => v = x
  sl := []
  old := []
  still := true
  news := false
  hsl := fun _ _ _ _ _ _ _ h => h
  hext := fun _ _ _ _ _ _ _ _ h => h
  hstill := fun _ _ _ _ _ _ _ h => h
  hnews := fun h => Bool.noConfusion h
  hrow := fun _ _ _ _ _ _ _ _ _ _ h => h
  hpext := fun _ _ _ h => h
  hprow := fun _ _ _ _ h => h

def Ent.any : Ent where
  E := fun _ _ _ _ _ => True
  sl := []
  old := []
  still := true
  news := false
  hsl := fun _ _ _ _ _ _ _ h => h
  hext := fun _ _ _ _ _ _ _ _ h => h
  hstill := fun _ _ _ _ _ _ _ h => h
  hnews := fun h => Bool.noConfusion h
  hrow := fun _ _ _ _ _ _ _ _ _ _ h => h
  hpext := fun _ _ _ h => h
  hprow := fun _ _ _ _ h => h

/-- of the value and of the blocks that the operation made -/
def Ent.rel (R : Value → Nat → Nat → World → Prop)
    (h : ∀ v l h w w', (∀ b, l ≤ b → b < h → w'.heap[b]? = w.heap[b]?) → R v l h w → R v l h w') : Ent where
  E := fun v l h _ w => R v l h w
  sl := []
  old := []
  still := false
  news := false
  hsl := fun _ _ _ _ _ _ _ h => h
  hext := fun v l h' _ w w' hs e r => h v l h' w w' (fun b _ h2 => e.block b (by omega)) r
  hstill := fun h => Bool.noConfusion h
  hnews := fun h => Bool.noConfusion h
  hrow := fun v l h' _ w b cells hb _ _ r => h v l h' w _ (fun k h1 h2 => setRow_other (by omega)) r
  hpext := fun _ _ _ h => h
  hprow := fun _ _ _ _ h => h

/-- a new block of k cells -/
def Ent.made (T : TypeId) (k : Nat) : Ent where
  E := fun v l h _ w => ∃ b cs, v = .pointer (some ⟨b, 0, none⟩) ∧ l ≤ b ∧ b < h ∧ w.heap[b]? = some (.cells cs T (0, 0)) ∧ cs.size = k
  sl := []
  old := []
  still := false
  news := true
  hsl := fun _ _ _ _ _ _ _ h => h
  hext := fun _ _ _ _ _ _ hs e ⟨b, cs, h1, h2, h3, h4, h5⟩ => ⟨b, cs, h1, h2, h3, (e.block b (by omega)).trans h4, h5⟩
  hstill := fun h => Bool.noConfusion h
  hnews := fun _ _ _ _ _ _ ⟨b, _, h1, h2, h3, _⟩ => ⟨b, h1, h2, h3⟩
  hrow := fun _ _ _ _ _ _ _ hb _ _ ⟨b', cs, h1, h2, h3, h4, h5⟩ => ⟨b', cs, h1, h2, h3, (setRow_other (by omega)).trans h4, h5⟩
  hpext := fun _ _ _ h => h
  hprow := fun _ _ _ _ h => h

/-- of the value alone -/
def Ent.of (R : Value → Prop) : Ent where
  E := fun v _ _ _ _ => R v
  sl := []
  old := []
  still := true
  news := false
  hsl := fun _ _ _ _ _ _ _ h => h
  hext := fun _ _ _ _ _ _ _ _ h => h
  hstill := fun _ _ _ _ _ _ _ h => h
  hnews := fun h => Bool.noConfusion h
  hrow := fun _ _ _ _ _ _ _ _ _ _ h => h
  hpext := fun _ _ _ h => h
  hprow := fun _ _ _ _ h => h

/-- the block behind slot t holds cells of which R is true -/
def Ent.filledP (t : Nat) (R : Array Value → Prop) (T : TypeId) : Ent where
  E := fun _ _ _ a w => ∃ b cs, a.eval (.tmp t) = .pointer (some ⟨b, 0, none⟩) ∧ R cs ∧ w.heap[b]? = some (.cells cs T (0, 0))
  sl := [t]
  old := []
  still := false
  news := false
  hsl := fun _ _ _ _ _ _ h ⟨b, cs, h1, h3, h2⟩ => ⟨b, cs, by rw [← h t (by simp)]; exact h1, h3, h2⟩
  hext := fun _ _ _ _ _ _ _ e ⟨b, cs, h1, h3, h2⟩ => ⟨b, cs, h1, h3, (e.block b (lt_of_some h2)).trans h2⟩
  hstill := fun h => Bool.noConfusion h
  hnews := fun h => Bool.noConfusion h
  hrow := fun _ _ _ _ _ _ _ _ hn _ ⟨b', cs, h1, h3, h2⟩ => ⟨b', cs, h1, h3, (setRow_other (fun he => hn t (by simp) (by rw [← he]; exact h1))).trans h2⟩
  hpext := fun _ _ _ h => h
  hprow := fun _ _ _ _ h => h

/-- the block behind slot t holds these cells -/
abbrev Ent.filled (t : Nat) (cs : Array Value) (T : TypeId) : Ent := .filledP t (· = cs) T

/-- the block b, which was there, holds cells of which R is true -/
def Ent.knownP (b : Nat) (R : Array Value → Prop) (T : TypeId) : Ent where
  E := fun _ _ _ _ w => ∃ cs, R cs ∧ w.heap[b]? = some (.cells cs T (0, 0))
  sl := []
  old := [b]
  still := false
  news := false
  hsl := fun _ _ _ _ _ _ _ h => h
  hext := fun _ _ _ _ _ _ _ e ⟨cs, h1, h⟩ => ⟨cs, h1, (e.block b (lt_of_some h)).trans h⟩
  hstill := fun h => Bool.noConfusion h
  hnews := fun h => Bool.noConfusion h
  hrow := fun _ _ _ _ _ _ _ _ _ ho ⟨cs, h1, h⟩ => ⟨cs, h1, (setRow_other (fun he => ho (by simp [he]))).trans h⟩
  hpext := fun _ _ _ h => h
  hprow := fun _ _ _ _ h => h

/-- the block b holds cs0 until this operation comes, and then cells of which R is true -/
def Ent.turn (b : Nat) (cs0 : Array Value) (R : Array Value → Prop) (T : TypeId) : Ent where
  E := fun _ _ _ _ w => ∃ cs, R cs ∧ w.heap[b]? = some (.cells cs T (0, 0))
  sl := []
  old := [b]
  still := false
  news := false
  pre := fun w => w.heap[b]? = some (.cells cs0 T (0, 0))
  hsl := fun _ _ _ _ _ _ _ h => h
  hext := fun _ _ _ _ _ _ _ e ⟨cs, h1, h⟩ => ⟨cs, h1, (e.block b (lt_of_some h)).trans h⟩
  hstill := fun h => Bool.noConfusion h
  hnews := fun h => Bool.noConfusion h
  hrow := fun _ _ _ _ _ _ _ _ _ ho ⟨cs, h1, h⟩ => ⟨cs, h1, (setRow_other (fun he => ho (by simp [he]))).trans h⟩
  hpext := fun _ _ e h => (e.block b (lt_of_some h)).trans h
  hprow := fun _ _ _ ho h => (setRow_other (fun he => ho (by simp [he]))).trans h

/-- the block b, which was there, holds these cells -/
abbrev Ent.known (b : Nat) (cs : Array Value) (T : TypeId) : Ent := .knownP b (· = cs) T

def dep (o : Oper) : List Nat := o.after.toList.filterMap fun e => if Region.binds .any e then some e.on else none

/-- every edge goes back -/
def backL : Nat → List Oper → Bool
  | _, [] => true
  | i, o :: l => (dep o).all (· < i) && backL (i + 1) l

/-- no slot is written twice, each lies within the frame -/
def uniqL (n : Nat) : List Oper → Bool
  | [] => true
  | o :: l => (match o.dst with | some d => decide (d < n) && l.all (fun x => x.dst != some d) | none => true) && uniqL n l

/-- a fact on slots speaks of slots that nothing writes that may come later -/
def slotsL (ops : List Oper) : List Oper → List Ent → Bool
  | o :: l, e :: es => (ops.zipIdx.all fun (x, k) => match x.dst with | some d => !e.sl.contains d || (dep o).contains k | none => true) && slotsL ops l es
  | _, _ => true

/-- the frame, with what has come put in -/
def putsL (L : Nat → Bool) (u : Nat → Value) : Nat → List Oper → Act → Act
  | _, [], a => a
  | i, o :: l, a => putsL L u (i + 1) l (if L i then a.put o.dst (u i) else a)

/-- the frame at the end -/
def allPut (u : Nat → Value) : Nat → List Oper → Act → Act
  | _, [], a => a
  | i, o :: l, a => allPut u (i + 1) l (a.put o.dst (u i))

theorem putsL_all (L : Nat → Bool) (u : Nat → Value) : ∀ (l : List Oper) (i : Nat) (a : Act), (∀ j, i ≤ j → j < i + l.length → L j = true) → putsL L u i l a = allPut u i l a := by
  intro l
  induction l with
  | nil => intro i a _; rfl
  | cons o l ih =>
    intro i a h
    simp only [putsL, allPut]
    rw [if_pos (h i (Nat.le_refl _) (by simp)), ih (i + 1) _ (fun j h1 h2 => h j (by omega) (by simp at *; omega))]

theorem putsL_none (u : Nat → Value) : ∀ (l : List Oper) (i : Nat) (a : Act), putsL (fun _ => false) u i l a = a := by
  intro l
  induction l with
  | nil => intro i a; rfl
  | cons o l ih => intro i a; simp only [putsL]; rw [if_neg (by simp)]; exact ih _ _

theorem putsL_congr {L L' : Nat → Bool} {u u' : Nat → Value} : ∀ (l : List Oper) (i : Nat) (a : Act),
    (∀ j, i ≤ j → j < i + l.length → L j = L' j ∧ (L j = true → u j = u' j)) → putsL L u i l a = putsL L' u' i l a := by
  intro l
  induction l with
  | nil => intro i a _; rfl
  | cons o l ih =>
    intro i a h
    simp only [putsL]
    obtain ⟨h1, h2⟩ := h i (Nat.le_refl _) (by simp)
    rw [← h1]
    cases hL : L i with
    | false => simp only [Bool.false_eq_true, if_false]; exact ih _ _ fun j a b => h j (by omega) (by simp at *; omega)
    | true => simp only [if_true]; rw [h2 hL]; exact ih _ _ fun j a b => h j (by omega) (by simp at *; omega)

theorem putsL_put {L : Nat → Bool} {u : Nat → Value} {dst : Option Tmp} {v : Value} : ∀ (l : List Oper) (i : Nat) (a : Act),
    (∀ o ∈ l, ∀ d, dst = some d → o.dst ≠ some d) → putsL L u i l (a.put dst v) = (putsL L u i l a).put dst v := by
  intro l
  induction l with
  | nil => intro i a _; rfl
  | cons o l ih =>
    intro i a h
    simp only [putsL]
    cases hL : L i with
    | false => simp only [Bool.false_eq_true, if_false]; exact ih _ _ fun o ho => h o (List.mem_cons_of_mem _ ho)
    | true =>
      simp only [if_true]
      rw [← ih _ _ fun o ho => h o (List.mem_cons_of_mem _ ho), Act.put_comm a v (u i) (h o List.mem_cons_self)]

theorem uniqL_tail {n : Nat} {o : Oper} {l : List Oper} (h : uniqL n (o :: l) = true) : uniqL n l = true := by
  simp [uniqL] at h; exact h.2

theorem uniqL_head {n : Nat} {o : Oper} {l : List Oper} (h : uniqL n (o :: l) = true) : ∀ x ∈ l, ∀ d, o.dst = some d → x.dst ≠ some d := by
  intro x hx d hd
  simp [uniqL, hd] at h
  exact h.1.2 x hx

theorem uniqL_lt {n : Nat} : ∀ {l : List Oper}, uniqL n l = true → ∀ o ∈ l, ∀ d, o.dst = some d → d < n := by
  intro l
  induction l with
  | nil => intro _ o ho; cases ho
  | cons x l ih =>
    intro h o ho d hd
    rcases List.mem_cons.1 ho with rfl | ho
    · simp [uniqL, hd] at h; exact h.1.1
    · exact ih (uniqL_tail h) o ho d hd

/-- one more has come -/
theorem putsL_step {n : Nat} {L : Nat → Bool} {u : Nat → Value} {v : Value} : ∀ (l : List Oper) (k i : Nat) (a : Act), uniqL n l = true →
    k ≤ i → ∀ o, l[i - k]? = some o → L i = false →
    putsL (fun j => if j = i then true else L j) (fun j => if j = i then v else u j) k l a = (putsL L u k l a).put o.dst v := by
  intro l
  induction l with
  | nil => intro k i a _ _ o ho; simp at ho
  | cons x l ih =>
    intro k i a hu hk o ho hL
    rcases Nat.eq_or_lt_of_le hk with he | hlt
    · subst he
      simp at ho
      subst ho
      simp only [putsL, if_true, hL, Bool.false_eq_true, if_false]
      rw [← putsL_put _ _ _ (uniqL_head hu)]
      refine putsL_congr _ _ _ fun j h1 h2 => ?_
      have : j ≠ k := by omega
      simp [this]
    · simp only [putsL]
      have hne : k ≠ i := by omega
      simp only [hne, if_false]
      have ho' : l[i - (k + 1)]? = some o := by
        rw [show i - k = (i - (k + 1)) + 1 from by omega] at ho
        simpa using ho
      exact ih (k + 1) i _ (uniqL_tail hu) (by omega) o ho' hL

/-- a slot that nothing that has come writes -/
theorem putsL_eval {L : Nat → Bool} {u : Nat → Value} {t : Nat} : ∀ (l : List Oper) (k : Nat) (a : Act),
    (∀ i o, l[i]? = some o → L (k + i) = true → o.dst ≠ some t) → (putsL L u k l a).eval (.tmp t) = a.eval (.tmp t) := by
  intro l
  induction l with
  | nil => intro k a _; rfl
  | cons x l ih =>
    intro k a h
    simp only [putsL]
    rw [ih (k + 1) _ (fun i o ho hl => h (i + 1) o (by simpa using ho) (by rw [show k + (i + 1) = k + 1 + i from by omega]; exact hl))]
    cases hL : L k with
    | false => simp
    | true =>
      simp only [if_true]
      refine Act.eval_put fun d hd he => ?_
      cases he
      exact h 0 x (by simp) (by simpa using hL) hd

theorem put_size (a : Act) (dst : Option Tmp) (v : Value) : (a.put dst v).tmps.size = a.tmps.size := by
  cases dst <;> simp [Act.put]

theorem putsL_size {L : Nat → Bool} {u : Nat → Value} : ∀ (l : List Oper) (k : Nat) (a : Act), (putsL L u k l a).tmps.size = a.tmps.size := by
  intro l
  induction l with
  | nil => intro k a; rfl
  | cons x l ih =>
    intro k a
    simp only [putsL]
    rw [ih]
    split
    · exact put_size _ _ _
    · rfl

theorem eval_put_same {a : Act} {d : Nat} {v : Value} (h : d < a.tmps.size) : (a.put (some d) v).eval (.tmp d) = v := by
  simp [Act.put, Act.eval, h]


/-- what an operation wants to know: a slot as it was when the region began; a slot (or an effect) of an operation that has come -/
inductive Need where
  | ini (t : Nat)
  | frm (k : Nat) (t : Nat)
  | eff (k : Nat)
  | til (k : Nat)

def needOk (ops : List Oper) (i : Nat) (o : Oper) : Need → Bool
  | .ini t => ops.zipIdx.all fun (x, k) => k == i || x.dst != some t || (dep x).contains i
  | .frm k t => (dep o).contains k && ((ops[k]?).bind (·.dst) == some t)
  | .eff k => (dep o).contains k
  | .til k => ((ops[k]?).map fun x => k == i || (dep x).contains i).getD false

def needsOk (ops : List Oper) : Nat → List Oper → List (List Need) → Bool
  | _, [], [] => true
  | i, o :: l, n :: ns => n.all (needOk ops i o) && needsOk ops (i + 1) l ns
  | _, _, _ => false

def Need.fact (plan : List Ent) (a0 a : Act) (w : World) : Need → Prop
  | .ini t => a.eval (.tmp t) = a0.eval (.tmp t)
  | .frm k t => ∃ l h, (plan.getD k .any).E (a.eval (.tmp t)) l h a w
  | .eff k => ∃ v l h, (plan.getD k .any).E v l h a w
  | .til k => (plan.getD k .any).pre w

def facts (plan : List Ent) (a0 a : Act) (w : World) : List Need → Prop
  | [] => True
  | n :: l => n.fact plan a0 a w ∧ facts plan a0 a w l

/-- the step that an operation makes in the world -/
def Step (ops : List Oper) (G : World → Prop) (B0 : Nat) (plan : List Ent) (i : Nat) (o : Oper) (a : Act) (w w' : World) : Prop :=
  Ext w w' ∨ ∀ l h : Nat → Nat,
    (∀ k ∈ dep o, ∀ t, (ops[k]?).bind (·.dst) = some t → (plan.getD k .any).E (a.eval (.tmp t)) (l k) (h k) a w ∧ h k ≤ w.heap.size ∧ B0 ≤ l k) →
    (∀ k ∈ dep o, ∀ k' ∈ dep o, k ≠ k' → h k ≤ l k' ∨ h k' ≤ l k) →
    w.heap.size ≤ w'.heap.size ∧ G w' ∧ (∀ j e, plan[j]? = some e → j ≠ i → e.pre w → e.pre w') ∧ ∀ j e, plan[j]? = some e → j ≠ i → e.still = false → ∀ v lj hj, B0 ≤ lj → hj ≤ w.heap.size →
      (∀ k ∈ dep o, (k ≠ j → h k ≤ lj ∨ hj ≤ l k) ∧ (k = j → l k = lj ∧ h k = hj)) → e.E v lj hj a w → e.E v lj hj a w'

/-- what is to be shown of one operation -/
def OpOk (P : Program) (ops : Array Oper) (Q : Exit → Act → World → Prop) (G : World → Prop) (B0 : Nat) (plan : List Ent) (a0 : Act) (i : Nat) (o : Oper) (e : Ent) (ns : List Need) : Prop :=
  ∀ a w, G w → facts plan a0 a w ns →
    (Region.wanted o (yielded ops a.tmps) = true → o.wp P a w (fun a' w' => ∃ v, a' = a.put o.dst v ∧ e.E v w.heap.size w'.heap.size a w' ∧ Step ops.toList G B0 plan i o a w w') Q) ∧
    (Region.wanted o (yielded ops a.tmps) = false → e.E undef w.heap.size w.heap.size a w)

def opsOk (P : Program) (ops : Array Oper) (Q : Exit → Act → World → Prop) (G : World → Prop) (B0 : Nat) (plan : List Ent) (a0 : Act) : Nat → List Oper → List Ent → List (List Need) → Prop
  | _, [], [], [] => True
  | i, o :: l, e :: es, n :: ns => OpOk P ops Q G B0 plan a0 i o e n ∧ opsOk P ops Q G B0 plan a0 (i + 1) l es ns
  | _, _, _, _ => False

/-- what is known at the end -/
def allE (u : Nat → Value) (l h : Nat → Nat) (a : Act) (w : World) : Nat → List Ent → Prop
  | _, [] => True
  | i, e :: es => e.E (u i) (l i) (h i) a w ∧ allE u l h a w (i + 1) es

theorem allE_of {u : Nat → Value} {l h : Nat → Nat} {a : Act} {w : World} : ∀ (es : List Ent) (i : Nat), (∀ (j : Nat) (e : Ent), es[j]? = some e → e.E (u (i + j)) (l (i + j)) (h (i + j)) a w) → allE u l h a w i es := by
  intro es
  induction es with
  | nil => intro i _; trivial
  | cons e es ih =>
    intro i h
    exact ⟨h 0 e (by simp), ih (i + 1) fun j e' he => by rw [show i + 1 + j = i + (j + 1) from by omega]; exact h (j + 1) e' (by simpa using he)⟩

theorem opsOk_get {P : Program} {ops : Array Oper} {Q : Exit → Act → World → Prop} {G : World → Prop} {B0 : Nat} {plan : List Ent} {a0 : Act} :
    ∀ (l : List Oper) (es : List Ent) (ns : List (List Need)) (i : Nat), opsOk P ops Q G B0 plan a0 i l es ns → l.length = es.length ∧
      ∀ j o, l[j]? = some o → ∃ e n, es[j]? = some e ∧ ns[j]? = some n ∧ OpOk P ops Q G B0 plan a0 (i + j) o e n := by
  intro l
  induction l with
  | nil =>
    intro es ns i h
    cases es <;> cases ns <;> simp [opsOk] at h ⊢
  | cons o l ih =>
    intro es ns i h
    cases es with
    | nil => cases ns <;> simp [opsOk] at h
    | cons e es =>
      cases ns with
      | nil => simp [opsOk] at h
      | cons n ns =>
        obtain ⟨h1, h2⟩ := h
        obtain ⟨h3, h4⟩ := ih es ns (i + 1) h2
        refine ⟨by simp [h3], fun j x hx => ?_⟩
        cases j with
        | zero =>
          simp at hx; subst hx
          exact ⟨e, n, rfl, rfl, h1⟩
        | succ j =>
          obtain ⟨e', n', a1, a2, a3⟩ := h4 j x (by simpa using hx)
          exact ⟨e', n', by simpa using a1, by simpa using a2, by rw [show i + (j + 1) = i + 1 + j from by omega]; exact a3⟩

theorem needsOk_get {ops : List Oper} : ∀ (l : List Oper) (ns : List (List Need)) (i : Nat), needsOk ops i l ns = true →
    ∀ j o n, l[j]? = some o → ns[j]? = some n → ∀ x ∈ n, needOk ops (i + j) o x = true := by
  intro l
  induction l with
  | nil => intro ns i _ j o n ho; simp at ho
  | cons a l ih =>
    intro ns i h j o n ho hn x hx
    cases ns with
    | nil => simp [needsOk] at h
    | cons m ns =>
      simp only [needsOk, Bool.and_eq_true, List.all_eq_true] at h
      cases j with
      | zero => simp at ho hn; subst ho; subst hn; exact h.1 x hx
      | succ j =>
        rw [show i + (j + 1) = i + 1 + j from by omega]
        exact ih ns (i + 1) h.2 j o n (by simpa using ho) (by simpa using hn) x hx

theorem facts_of {plan : List Ent} {a0 a : Act} {w : World} : ∀ {ns : List Need}, (∀ n ∈ ns, n.fact plan a0 a w) → facts plan a0 a w ns := by
  intro ns
  induction ns with
  | nil => intro _; trivial
  | cons n ns ih => intro h; exact ⟨h n List.mem_cons_self, ih fun m hm => h m (List.mem_cons_of_mem _ hm)⟩

theorem slotsL_get {ops : List Oper} : ∀ (l : List Oper) (es : List Ent), slotsL ops l es = true → ∀ (j : Nat) (o : Oper) (e : Ent), l[j]? = some o → es[j]? = some e →
    ∀ (k : Nat) (x : Oper), ops[k]? = some x → ∀ (d : Nat), x.dst = some d → d ∈ e.sl → k ∈ dep o := by
  intro l
  induction l with
  | nil => intro es _ j o e ho; simp at ho
  | cons y l ih =>
    intro es h j o e ho he k x hx d hd hm
    cases es with
    | nil => simp at he
    | cons z es =>
      simp only [slotsL, Bool.and_eq_true, List.all_eq_true] at h
      cases j with
      | zero =>
        simp at ho he; subst ho; subst he
        have := h.1 (x, k) (List.mem_iff_getElem?.2 ⟨k, by simp [hx]⟩)
        simp [hd, hm] at this
        exact this
      | succ j => exact ih es h.2 j o e (by simpa using ho) (by simpa using he) k x hx d hd hm

theorem backL_get : ∀ (l : List Oper) (k : Nat), backL k l = true → ∀ j o, l[j]? = some o → ∀ x ∈ dep o, x < k + j := by
  intro l
  induction l with
  | nil => intro k _ j o ho; simp at ho
  | cons a l ih =>
    intro k h j o ho x hx
    simp only [backL, Bool.and_eq_true, List.all_eq_true, decide_eq_true_eq] at h
    cases j with
    | zero => simp at ho; subst ho; exact h.1 x hx
    | succ j =>
      have := ih (k + 1) h.2 j o (by simpa using ho) x hx
      omega

theorem mem_dep {o : Oper} {j : Nat} : j ∈ dep o ↔ ∃ e ∈ o.after, Region.binds .any e = true ∧ e.on = j := by
  unfold dep
  rw [List.mem_filterMap]
  constructor
  · rintro ⟨e, he, h⟩
    by_cases hb : Region.binds .any e = true
    · rw [if_pos hb] at h; exact ⟨e, by simpa using he, hb, by simpa using h⟩
    · rw [if_neg hb] at h; cases h
  · rintro ⟨e, he, hb, rfl⟩
    exact ⟨e, by simpa using he, by rw [if_pos hb]⟩

section
variable {P : Program} {ops : Array Oper} {Q : Exit → Act → World → Prop} {G : World → Prop} {B0 : Nat} {plan : List Ent} {a0 : Act} {ns : List (List Need)}

/-- the walk through a region in whatever order -/
theorem wpAny_J (hback : backL 0 ops.toList = true) (huniq : uniqL a0.tmps.size ops.toList = true) (hslots : slotsL ops.toList ops.toList plan = true)
    (hneeds : needsOk ops.toList 0 ops.toList ns = true) (hGE : ∀ w w', Ext w w' → G w → G w') (hGB : ∀ w, G w → B0 ≤ w.heap.size)
    (hok : opsOk P ops Q G B0 plan a0 0 ops.toList plan ns)
    (hend : ∀ u l h w, G w → allE u l h (allPut u 0 ops.toList a0) w 0 plan → (∀ j, j < ops.size → h j ≤ w.heap.size ∧ B0 ≤ l j) → (∀ j k, j < ops.size → k < ops.size → j ≠ k → h j ≤ l k ∨ h k ≤ l j) → Q .normal (allPut u 0 ops.toList a0) w) :
    ∀ (fuel : Nat) (listed : Array Bool) (u : Nat → Value) (l h : Nat → Nat) (w : World),
      listed.size = ops.size → (listed.toList.filter (! ·)).length = fuel →
      (∀ j o, ops[j]? = some o → listed.getD j false = true → ∀ x ∈ dep o, listed.getD x false = true) →
      G w → (∀ j e, plan[j]? = some e → listed.getD j false = true → e.E (u j) (l j) (h j) (putsL (fun j => listed.getD j false) u 0 ops.toList a0) w) →
      (∀ j e, plan[j]? = some e → listed.getD j false = false → e.pre w) →
      (∀ j, listed.getD j false = true → h j ≤ w.heap.size ∧ B0 ≤ l j) →
      (∀ j k, listed.getD j false = true → listed.getD k false = true → j ≠ k → h j ≤ l k ∨ h k ≤ l j) →
      wpAny P .any ops Q fuel listed (putsL (fun j => listed.getD j false) u 0 ops.toList a0) w := by
  obtain ⟨hlen, hget⟩ := opsOk_get _ _ _ _ hok
  intro fuel
  induction fuel with
  | zero =>
    intro listed u l h w hsz hcount hdown hG hE hP hF hD
    have hall : ∀ j, j < ops.size → listed.getD j false = true := by
      intro j hj
      have hj' : j < listed.size := by omega
      have hmem : listed[j] ∈ listed.toList := by simp
      rcases Bool.eq_false_or_eq_true listed[j] with h | h
      · simp [hj', h]
      · exfalso
        have : listed[j] ∈ listed.toList.filter (! ·) := List.mem_filter.2 ⟨hmem, by simp [h]⟩
        rw [List.length_eq_zero_iff.1 hcount] at this
        cases this
    have hput : putsL (fun j => listed.getD j false) u 0 ops.toList a0 = allPut u 0 ops.toList a0 :=
      putsL_all _ _ _ _ _ fun j _ h2 => hall j (by simpa using h2)
    refine ⟨?_, ?_⟩
    · cases hr : Region.ready .any ops listed with
      | nil => rfl
      | cons i is =>
        have hi : i ∈ Region.ready .any ops listed := by rw [hr]; exact List.mem_cons_self
        obtain ⟨h0, o, ho, _⟩ := mem_ready.1 hi
        have hlt : i < ops.size := by
          rcases Nat.lt_or_ge i ops.size with h | h
          · exact h
          · simp [Array.getElem?_eq_none h] at ho
        have h1 := hall i hlt
        have hlt' : i < listed.size := by omega
        simp [hlt'] at h0 h1
        rw [h0] at h1; cases h1
    · rw [hput]
      refine hend u l h w hG (allE_of _ _ fun j e he => ?_) (fun j hj => hF j (hall j hj)) (fun j k hj hk hne => hD j k (hall j hj) (hall k hk) hne)
      have hj : j < ops.size := by
        have : j < plan.length := by
          rcases Nat.lt_or_ge j plan.length with h | h
          · exact h
          · simp [List.getElem?_eq_none h] at he
        have hl : ops.toList.length = ops.size := by simp
        omega
      have := hE j e he (hall j hj)
      rw [hput] at this
      simpa using this
  | succ fuel ih =>
    intro listed u l h w hsz hcount hdown hG hE hP hF hD
    have hstep : ∀ i ∈ Region.ready .any ops listed,
        wpOp P ops Q i (wpAny P .any ops Q fuel (listed.setIfInBounds i true)) (putsL (fun j => listed.getD j false) u 0 ops.toList a0) w := by
      intro i hi
      obtain ⟨h0, o, ho, hall⟩ := mem_ready.1 hi
      have hlt : i < ops.size := by
        rcases Nat.lt_or_ge i ops.size with h | h
        · exact h
        · simp [Array.getElem?_eq_none h] at ho
      have hlt' : i < listed.size := by omega
      have hLi : listed.getD i false = false := by simp [hlt'] at h0 ⊢; exact h0
      have hol : ops.toList[i]? = some o := by simpa using ho
      obtain ⟨e, n, he, hn, hOp⟩ := hget i o hol
      rw [Nat.zero_add] at hOp
      have hdepL : ∀ x ∈ dep o, listed.getD x false = true := fun x hx => by
        obtain ⟨ed, h1, h2, rfl⟩ := mem_dep.1 hx
        exact hall ed h1 h2
      -- a slot of what has come holds what came
      have hslot : ∀ k ok t, ops[k]? = some ok → listed.getD k false = true → ok.dst = some t →
          (putsL (fun j => listed.getD j false) u 0 ops.toList a0).eval (.tmp t) = u k := by
        intro k ok t hok1 hkL hok2
        have hlisted : (fun j => listed.getD j false) = fun j => if j = k then true else (listed.setIfInBounds k false).getD j false := by
          funext j
          by_cases hjk : j = k
          · subst hjk; simp [hkL]
          · simp [hjk, Array.getElem?_setIfInBounds_ne (Ne.symm hjk)]
        have hu : u = fun j => if j = k then u k else u j := by funext j; split <;> simp_all
        rw [hlisted]
        rw [hu]
        rw [putsL_step _ 0 k _ huniq (Nat.zero_le _) ok (by simpa using hok1) (by
          have : k < ops.size := by
            rcases Nat.lt_or_ge k ops.size with h | h
            · exact h
            · rw [Array.getElem?_eq_none h] at hok1; cases hok1
          simp [show k < listed.size by omega])]
        rw [hok2]
        refine (eval_put_same ?_).trans (by simp)
        rw [putsL_size]
        exact uniqL_lt huniq ok (List.mem_of_getElem? (by simpa using hok1)) t hok2
      -- what the operation wants to know
      have hfacts : facts plan a0 (putsL (fun j => listed.getD j false) u 0 ops.toList a0) w n := by
        refine facts_of fun x hx => ?_
        have hok' := needsOk_get _ _ _ hneeds i o n hol hn x hx
        rw [Nat.zero_add] at hok'
        cases x with
        | ini t =>
          simp only [needOk, List.all_eq_true] at hok'
          refine putsL_eval _ _ _ fun k ok hk hL hdst => ?_
          rw [Nat.zero_add] at hL
          have h1 := hok' (ok, k) (List.mem_iff_getElem?.2 ⟨k, by simp [hk]⟩)
          have hki : k ≠ i := fun h => by rw [h, hLi] at hL; cases hL
          have hmem : i ∈ dep ok := by
            have hki' : (k == i) = false := by simpa using hki
            simp [hki', hdst] at h1
            exact h1
          have := hdown k ok (by simpa using hk) hL i hmem
          rw [hLi] at this; cases this
        | frm k t =>
          simp only [needOk, Bool.and_eq_true, beq_iff_eq] at hok'
          obtain ⟨hk1, hk2⟩ := hok'
          have hkd : k ∈ dep o := by simpa using hk1
          have hkL := hdepL k hkd
          obtain ⟨ok, hok1, hok2⟩ := Option.bind_eq_some_iff.1 hk2
          obtain ⟨ek, nk, hek, _, _⟩ := hget k ok hok1
          have hEk := hE k ek hek hkL
          show ∃ l h, (plan.getD k .any).E _ l h _ _
          have hgd : plan.getD k .any = ek := by simp [hek]
          rw [hgd]
          have hv := hslot k ok t (by simpa using hok1) hkL hok2
          rw [hv]
          exact ⟨_, _, hEk⟩
        | til k =>
          simp only [needOk] at hok'
          cases hok2 : ops.toList[k]? with
          | none => rw [hok2] at hok'; cases hok'
          | some ok =>
            rw [hok2] at hok'
            have hmem : k = i ∨ i ∈ dep ok := by simpa using hok'
            cases hpk : plan[k]? with
            | none => simp [Need.fact, hpk, Ent.any]
            | some ek =>
              have : (plan.getD k .any) = ek := by simp [hpk]
              show (plan.getD k .any).pre w
              rw [this]
              refine hP k ek hpk ?_
              rcases Bool.eq_false_or_eq_true (listed.getD k false) with h1 | h1
              · rcases hmem with hmem | hmem
                · rw [hmem, hLi] at h1; cases h1
                · have := hdown k ok (by simpa using hok2) h1 i hmem
                  rw [hLi] at this; cases this
              · exact h1
        | eff k =>
          have hkd : k ∈ dep o := by simpa [needOk] using hok'
          have hkL := hdepL k hkd
          cases hpk : plan[k]? with
          | none => exact ⟨undef, 0, 0, by simp [hpk, Ent.any]⟩
          | some ek => exact ⟨u k, l k, h k, by simp only [List.getD_eq_getElem?_getD, hpk, Option.getD_some]; exact hE k ek hpk hkL⟩
      obtain ⟨hw1, hw2⟩ := hOp _ w hG hfacts
      -- behind it
      have hnext : ∀ v w', e.E v w.heap.size w'.heap.size (putsL (fun j => listed.getD j false) u 0 ops.toList a0) w' → Step ops.toList G B0 plan i o (putsL (fun j => listed.getD j false) u 0 ops.toList a0) w w' →
          wpAny P .any ops Q fuel (listed.setIfInBounds i true) ((putsL (fun j => listed.getD j false) u 0 ops.toList a0).put o.dst v) w' := by
        intro v w' hev hst
        have hL' : (fun j => (listed.setIfInBounds i true).getD j false) = fun j => if j = i then true else listed.getD j false := by
          funext j
          by_cases hji : j = i
          · subst hji; simp [hlt']
          · simp [hji, Array.getElem?_setIfInBounds_ne (Ne.symm hji)]
        have hput := putsL_step (L := fun j => listed.getD j false) (u := u) (v := v) ops.toList 0 i a0 huniq (Nat.zero_le _) o (by simpa using hol) hLi
        rw [← hput, ← hL']
        -- what the step leaves
        have hstep2 : w.heap.size ≤ w'.heap.size ∧ G w' ∧ (∀ j ej, plan[j]? = some ej → j ≠ i → ej.pre w → ej.pre w') ∧ ∀ j ej, plan[j]? = some ej → j ≠ i → listed.getD j false = true → ej.E (u j) (l j) (h j) (putsL (fun j => listed.getD j false) u 0 ops.toList a0) w' := by
          rcases hst with hx | hx
          · exact ⟨hx.size, hGE _ _ hx hG, fun j ej _ _ hp => ej.hpext _ _ hx hp, fun j ej hej _ hLj => ej.hext _ _ _ _ _ _ (hF j hLj).1 hx (hE j ej hej hLj)⟩
          · have hknow : ∀ k ∈ dep o, ∀ t, (ops.toList[k]?).bind (·.dst) = some t → (plan.getD k .any).E ((putsL (fun j => listed.getD j false) u 0 ops.toList a0).eval (.tmp t)) (l k) (h k) (putsL (fun j => listed.getD j false) u 0 ops.toList a0) w ∧ h k ≤ w.heap.size ∧ B0 ≤ l k := by
              intro k hk t ht
              obtain ⟨ok, hok1, hok2⟩ := Option.bind_eq_some_iff.1 ht
              obtain ⟨ek, nk, hek, _, _⟩ := hget k ok hok1
              rw [hslot k ok t (by simpa using hok1) (hdepL k hk) hok2]
              have hgd : plan.getD k .any = ek := by simp [hek]
              rw [hgd]
              exact ⟨hE k ek hek (hdepL k hk), hF k (hdepL k hk)⟩
            obtain ⟨s1, s2, s4, s3⟩ := hx l h hknow (fun k hk k' hk' hne => hD k k' (hdepL k hk) (hdepL k' hk') hne)
            refine ⟨s1, s2, s4, fun j ej hej hji hLj => ?_⟩
            have hE0 := hE j ej hej hLj
            cases hs : ej.still with
            | true => exact ej.hstill hs _ _ _ _ _ _ hE0
            | false =>
              refine s3 j ej hej hji hs _ _ _ (hF j hLj).2 (hF j hLj).1 (fun k hk => ⟨fun hkj => hD k j (hdepL k hk) hLj hkj, fun hkj => by rw [hkj]; exact ⟨rfl, rfl⟩⟩) hE0
        obtain ⟨hsize, hG', hP', hE'⟩ := hstep2
        refine ih (listed.setIfInBounds i true) (fun j => if j = i then v else u j) (fun j => if j = i then w.heap.size else l j) (fun j => if j = i then w'.heap.size else h j) w' (by simpa using hsz) ?_ ?_ hG' ?_ ?_ ?_ ?_
        · -- one fewer is left
          have hperm : ∀ (l : List Bool) (i : Nat) (hi : i < l.length), l[i] = false → ((l.set i true).filter (! ·)).length + 1 = (l.filter (! ·)).length := by
            intro l
            induction l with
            | nil => intro i hi; simp at hi
            | cons b l ihl =>
              intro i hi hb
              cases i with
              | zero => simp at hb; subst hb; simp
              | succ i =>
                simp only [List.set_cons_succ, List.filter_cons]
                have := ihl i (by simpa using hi) (by simpa using hb)
                cases b <;> simp <;> omega
          have := hperm listed.toList i (by simpa using hlt') (by simp [hlt'] at hLi; simpa using hLi)
          rw [Array.toList_setIfInBounds]
          omega
        · intro j oj hoj hLj x hx
          by_cases hxi : x = i
          · subst hxi; simp [hlt']
          · rw [show (listed.setIfInBounds i true).getD x false = listed.getD x false from by simp [Array.getElem?_setIfInBounds_ne (Ne.symm hxi)]]
            by_cases hji : j = i
            · subst hji
              rw [ho] at hoj; cases hoj
              exact hdepL x hx
            · exact hdown j oj hoj (by simpa [Array.getElem?_setIfInBounds_ne (Ne.symm hji)] using hLj) x hx
        · intro j ej hej hLj
          rw [hL', hput]
          by_cases hji : j = i
          · subst hji
            rw [he] at hej; cases hej
            simp only [if_true]
            refine e.hsl _ _ _ _ _ _ (fun t ht => ?_) hev
            refine (Act.eval_put fun d hd ht' => ?_).symm
            cases ht'
            have hself := slotsL_get _ _ hslots j o e hol he j o hol t hd ht
            have := backL_get _ _ hback j o hol j hself
            omega
          · simp only [hji, if_false]
            have hLj' : listed.getD j false = true := by simpa [Array.getElem?_setIfInBounds_ne (Ne.symm hji)] using hLj
            refine ej.hsl _ _ _ _ _ _ (fun t ht => ?_) (hE' j ej hej hji hLj')
            refine (Act.eval_put fun d hd ht' => ?_).symm
            cases ht'
            have hoj : ∃ oj, ops[j]? = some oj := by
              have hl : ops.toList.length = ops.size := by simp
              have : j < plan.length := by
                rcases Nat.lt_or_ge j plan.length with h | h
                · exact h
                · simp [List.getElem?_eq_none h] at hej
              exact ⟨ops[j]'(by omega), by simp [show j < ops.size by omega]⟩
            obtain ⟨oj, hoj⟩ := hoj
            have hmem := slotsL_get _ _ hslots j oj ej (by simpa using hoj) hej i o hol t hd ht
            have := hdown j oj hoj hLj' i hmem
            rw [hLi] at this; cases this
        · intro j ej hej hLj
          have hji : j ≠ i := fun hji => by subst hji; simp [hlt'] at hLj
          exact hP' j ej hej hji (hP j ej hej (by simpa [Array.getElem?_setIfInBounds_ne (Ne.symm hji)] using hLj))
        · intro j hLj
          by_cases hji : j = i
          · subst hji
            simp only [if_true]
            exact ⟨Nat.le_refl _, hGB w hG⟩
          · have hLj' : listed.getD j false = true := by simpa [Array.getElem?_setIfInBounds_ne (Ne.symm hji)] using hLj
            simp only [hji, if_false]
            exact ⟨Nat.le_trans (hF j hLj').1 hsize, (hF j hLj').2⟩
        · intro j k hLj hLk hjk
          have back : ∀ j, j ≠ i → (listed.setIfInBounds i true).getD j false = true → listed.getD j false = true := fun j hji h => by
            simpa [Array.getElem?_setIfInBounds_ne (Ne.symm hji)] using h
          by_cases hji : j = i
          · subst hji
            have hki : k ≠ j := Ne.symm hjk
            simp only [if_true, hki, if_false]
            exact .inr (hF k (back k hki hLk)).1
          · by_cases hki : k = i
            · subst hki
              simp only [if_true, hji, if_false]
              exact .inl (hF j (back j hji hLj)).1
            · simp only [hji, hki, if_false]
              exact hD j k (back j hji hLj) (back k hki hLk) hjk
      unfold wpOp
      rw [ho]
      dsimp only
      cases hwant : Region.wanted o (yielded ops (putsL (fun j => listed.getD j false) u 0 ops.toList a0).tmps) with
      | true =>
        rw [if_pos rfl]
        refine .inl (Oper.wp_mono ?_ (hw1 hwant))
        rintro a' w' ⟨v, rfl, hev, hst⟩
        exact hnext v w' hev hst
      | false =>
        rw [if_neg (by simp)]
        exact hnext undef w (hw2 hwant) (.inl (Ext.refl w))
    refine ⟨fun hnil => ?_, hstep⟩
    -- something may always come up
    exfalso
    have hex : ∃ j, j < listed.size ∧ listed.getD j true = false := by
      have : (listed.toList.filter (! ·)) ≠ [] := fun h => by rw [h] at hcount; simp at hcount
      obtain ⟨b, hb⟩ := List.exists_mem_of_ne_nil _ this
      obtain ⟨hb1, hb2⟩ := List.mem_filter.1 hb
      obtain ⟨j, hj, hjb⟩ := List.mem_iff_getElem.1 hb1
      have hj' : j < listed.size := by simpa using hj
      refine ⟨j, hj', ?_⟩
      have : listed[j] = false := by
        rw [show listed[j] = b from by simpa using hjb]; simpa using hb2
      simp [hj', this]
    have hleast : ∀ m j, j ≤ m → j < listed.size → listed.getD j true = false → False := by
      intro m
      induction m with
      | zero =>
        intro j hj hlt h0
        have hj0 : j = 0 := by omega
        subst hj0
        have : (0 : Nat) ∈ Region.ready .any ops listed := by
          rw [mem_ready]
          refine ⟨h0, ops[0], by simp [show 0 < ops.size by omega], fun ed h1 h2 => ?_⟩
          exfalso
          have := backL_get _ _ hback 0 ops[0] (by simp [show 0 < ops.size by omega]) ed.on (mem_dep.2 ⟨ed, h1, h2, rfl⟩)
          omega
        rw [hnil] at this; cases this
      | succ m ihm =>
        intro j hj hlt h0
        have : j ∈ Region.ready .any ops listed := by
          rw [mem_ready]
          refine ⟨h0, ops[j], by simp [show j < ops.size by omega], fun ed h1 h2 => ?_⟩
          have hlt2 := backL_get _ _ hback j ops[j] (by simp [show j < ops.size by omega]) ed.on (mem_dep.2 ⟨ed, h1, h2, rfl⟩)
          rcases Bool.eq_false_or_eq_true (listed.getD ed.on false) with h | h
          · exact h
          · exfalso
            refine ihm ed.on (by omega) (by omega) ?_
            have hlt3 : ed.on < listed.size := by omega
            simp [hlt3] at h ⊢; exact h
        rw [hnil] at this; cases this
    obtain ⟨j, hj, h0⟩ := hex
    exact hleast j j (Nat.le_refl _) hj h0

/-- **a region that draws its order, each operation shown once** -/
theorem wp_region_J {id : Nat} {w0 : World} (hm : P.follows .mixedOrders = true)
    (hchk : (backL 0 ops.toList && uniqL a0.tmps.size ops.toList && needsOk ops.toList 0 ops.toList ns) = true) (hslots : slotsL ops.toList ops.toList plan = true)
    (hpre : ∀ e ∈ plan, e.pre w0.drew) (hG : G w0.drew) (hGE : ∀ w w', Ext w w' → G w → G w') (hGB : ∀ w, G w → B0 ≤ w.heap.size)
    (hok : opsOk P ops Q G B0 plan a0 0 ops.toList plan ns)
    (hend : ∀ u l h w, G w → allE u l h (allPut u 0 ops.toList a0) w 0 plan → (∀ j, j < ops.size → h j ≤ w.heap.size ∧ B0 ≤ l j) → (∀ j k, j < ops.size → k < ops.size → j ≠ k → h j ≤ l k ∨ h k ≤ l j) → Q .normal (allPut u 0 ops.toList a0) w) :
    (Code.region id ops true).wp P Q a0 w0 := by
  simp only [Bool.and_eq_true] at hchk
  refine wp_region_any hm ?_
  have hnone : putsL (fun j => (Array.replicate ops.size false).getD j false) (fun _ => undef) 0 ops.toList a0 = a0 := by
    have : (fun j => (Array.replicate ops.size false).getD j false) = fun _ => false := by
      funext j
      by_cases h : j < ops.size <;> simp [h]
    rw [this, putsL_none]
  have hno : ∀ j, (Array.replicate ops.size false).getD j false = false := fun j => by
    by_cases h : j < ops.size <;> simp [h]
  have := wpAny_J (P := P) (Q := Q) hchk.1.1 hchk.1.2 hslots hchk.2 hGE hGB hok hend ops.size (Array.replicate ops.size false) (fun _ => undef) (fun _ => 0) (fun _ => 0) w0.drew
    (by simp) (by simp) (fun j o _ h => by rw [hno] at h; cases h) hG (fun j e _ h => by rw [hno] at h; cases h) (fun j e he _ => hpre e (List.mem_of_getElem? he)) (fun j h => by rw [hno] at h; cases h)
    (fun j k h => by rw [hno] at h; cases h)
  rw [hnone] at this
  exact this
end

/-! ### the world beside a region -/

/-- what lay there lies there still, but for some blocks -/
structure Keep (X : List Nat) (w u : World) : Prop where
  os : u.os = w.os
  tape : u.tape = w.tape
  output : u.output = w.output
  size : w.heap.size ≤ u.heap.size
  block : ∀ k, k < w.heap.size → k ∉ X → u.heap[k]? = w.heap[k]?

theorem Keep.refl (X : List Nat) (w : World) : Keep X w w := ⟨rfl, rfl, rfl, Nat.le_refl _, fun _ _ _ => rfl⟩
theorem Keep.drew {X : List Nat} {w u : World} (h : Keep X w u) : Keep X w u.drew := ⟨h.os, h.tape, h.output, h.size, h.block⟩
theorem Keep.ext {X : List Nat} {w u u' : World} (e : Ext u u') (h : Keep X w u) : Keep X w u' :=
  ⟨e.os.trans h.os, e.tape.trans h.tape, e.output.trans h.output, Nat.le_trans h.size e.size, fun k hk hx => (e.block k (Nat.lt_of_lt_of_le hk h.size)).trans (h.block k hk hx)⟩
theorem Keep.setRow {X : List Nat} {w u : World} (h : Keep X w u) {b : Nat} {cs : Array Value} (hb : w.heap.size ≤ b ∨ b ∈ X) : Keep X w (u.setRow b cs) :=
  ⟨h.os, h.tape, h.output, by rw [setRow_size]; exact h.size, fun k hk hx => by
    rw [setRow_other]
    · exact h.block k hk hx
    · intro he
      subst he
      rcases hb with hb | hb
      · omega
      · exact hx hb⟩
theorem Keep.below {w u : World} (h : Keep [] w u) : Below w.heap.size w u := ⟨h.os, h.tape, h.output, h.size, fun k hk => h.block k hk (by simp)⟩
theorem Keep.cell {X : List Nat} {w u : World} (h : Keep X w u) {p : Addr} (hp : p.block < w.heap.size) (hx : p.block ∉ X) : u.cell? p = w.cell? p := World.cell?_of_block (w := w) (h.block p.block hp hx)
theorem Keep.frozen {X : List Nat} {w u : World} (h : Keep X w u) {p : Addr} (hp : p.block < w.heap.size) (hx : p.block ∉ X) : u.frozen? p = w.frozen? p := World.frozen?_of_block (w := w) (h.block p.block hp hx)

/-- **the rule, with the world as it lay before, but for the blocks X** -/
theorem wp_region_K {P : Program} {ops : Array Oper} {Q : Exit → Act → World → Prop} {a0 : Act} {id : Nat} {w0 : World} (X : List Nat) (plan : List Ent) (ns : List (List Need)) (hm : P.follows .mixedOrders = true)
    (hchk : (backL 0 ops.toList && uniqL a0.tmps.size ops.toList && needsOk ops.toList 0 ops.toList ns) = true) (hslots : slotsL ops.toList ops.toList plan = true)
    (hpre : ∀ e ∈ plan, e.pre w0.drew)
    (hok : opsOk P ops Q (Keep X w0) w0.heap.size plan a0 0 ops.toList plan ns)
    (hend : ∀ u l h w, Keep X w0 w → allE u l h (allPut u 0 ops.toList a0) w 0 plan → (∀ j, j < ops.size → h j ≤ w.heap.size ∧ w0.heap.size ≤ l j) →
      (∀ j k, j < ops.size → k < ops.size → j ≠ k → h j ≤ l k ∨ h k ≤ l j) → Q .normal (allPut u 0 ops.toList a0) w) :
    (Code.region id ops true).wp P Q a0 w0 :=
  wp_region_J (G := Keep X w0) (B0 := w0.heap.size) hm hchk hslots hpre (Keep.drew (Keep.refl _ _)) (fun _ _ e h => Keep.ext e h) (fun _ h => h.size) hok hend

/-! ### one operation -/
section
variable {P : Program} {ops : Array Oper} {Q : Exit → Act → World → Prop} {G : World → Prop} {B0 : Nat} {plan : List Ent} {a0 : Act} {i : Nat} {o : Oper} {ns : List Need}

/-- it yields a value and leaves the world alone -/
theorem OpOk.quiet {x : Value} (hg : o.guard = none) (h : ∀ a w, G w → facts plan a0 a w ns → (execOp a.eval o).run P w = .ok (.value x) w) :
    OpOk P ops Q G B0 plan a0 i o (.val x) ns := by
  intro a w hG hf
  refine ⟨fun _ => ?_, fun h => by simp [Region.wanted, hg] at h⟩
  unfold Oper.wp
  rw [h a w hG hf]
  exact ⟨x, rfl, rfl, .inl (Ext.refl w)⟩

/-- it yields a value and adds to the world -/
theorem OpOk.adds {e : Ent} (hg : o.guard = none) (h : ∀ a w, G w → facts plan a0 a w ns → ∃ v w', (execOp a.eval o).run P w = .ok (.value v) w' ∧ Ext w w' ∧ e.E v w.heap.size w'.heap.size a w') :
    OpOk P ops Q G B0 plan a0 i o e ns := by
  intro a w hG hf
  refine ⟨fun _ => ?_, fun h => by simp [Region.wanted, hg] at h⟩
  obtain ⟨v, w', h1, h2, h3⟩ := h a w hG hf
  unfold Oper.wp
  rw [h1]
  exact ⟨v, rfl, h3, .inl h2⟩

theorem Ext.alloc (w : World) (x : Obj) : Ext w (w.alloc x) := (Below.refl _ _).alloc (Nat.le_refl _) _

theorem alloc_get (w : World) (x : Obj) : (w.alloc x).heap[w.heap.size]? = some x := by
  show (w.heap.push x)[w.heap.size]? = _
  simp

/-- a new block -/
theorem OpOk.made {T : TypeId} {k : Nat} {cs : Array Value} (hg : o.guard = none) (hk : cs.size = k)
    (h : ∀ a w, G w → facts plan a0 a w ns → (execOp a.eval o).run P w = .ok (.value (.pointer (some ⟨w.heap.size, 0, none⟩))) (w.alloc (.cells cs T))) :
    OpOk P ops Q G B0 plan a0 i o (.made T k) ns :=
  OpOk.adds hg fun a w hG hf => ⟨_, _, h a w hG hf, Ext.alloc _ _, w.heap.size, cs, rfl, Nat.le_refl _, by simp, alloc_get _ _, hk⟩

/-- a call that only adds -/
theorem OpOk.call {e : Ent} (hg : o.guard = none) (h : ∀ a w, G w → facts plan a0 a w ns → ∃ f args, (execOp a.eval o).run P w = .ok (.enter f args) w ∧
    Calls P f args w fun x w' => ∃ v, x = .returned v ∧ Ext w w' ∧ e.E v w.heap.size w'.heap.size a w') :
    OpOk P ops Q G B0 plan a0 i o e ns := by
  intro a w hG hf
  refine ⟨fun _ => ?_, fun h => by simp [Region.wanted, hg] at h⟩
  obtain ⟨f, args, h1, h2⟩ := h a w hG hf
  unfold Oper.wp
  rw [h1, Oper.upon_enter]
  refine h2.mono fun x w' hx => ?_
  obtain ⟨v, rfl, hv, he⟩ := hx
  exact ⟨v, rfl, he, .inl hv⟩

/-- what a store through slot t, which operation k made, asks of the plan -/
def fillOk (ops : List Oper) (sls : List (List Nat)) (nws : List Bool) (i k t : Nat) (o : Oper) : Bool :=
  (dep o).contains k && ((ops[k]?).bind (·.dst) == some t) && nws.getD k false &&
  sls.zipIdx.all fun (sl, j) => j == i || sl.all fun t' => (dep o).any fun k' => k' != k && ((ops[k']?).bind (·.dst) == some t') && nws.getD k' false

theorem map_getD_news (plan : List Ent) (k : Nat) : (plan.map (·.news)).getD k false = (plan.getD k .any).news := by
  rw [List.getD_eq_getElem?_getD, List.getD_eq_getElem?_getD, List.getElem?_map]
  cases plan[k]? <;> rfl

/-- a value stored into a new block -/
theorem OpOk.fill {t k n : Nat} {T : TypeId} {R : Array Value → Prop} (hg : o.guard = none)
    (hchk : fillOk ops.toList (plan.map (·.sl)) (plan.map (·.news)) i k t o = true)
    (hmade : plan.getD k .any = .made T n) (hold : ∀ e ∈ plan, ∀ x ∈ e.old, x < B0)
    (hf0 : ∀ a w, facts plan a0 a w ns → ∃ l h, (plan.getD k .any).E (a.eval (.tmp t)) l h a w)
    (hrun : ∀ a w b old, G w → facts plan a0 a w ns → a.eval (.tmp t) = .pointer (some ⟨b, 0, none⟩) → w.heap[b]? = some (.cells old T (0, 0)) → old.size = n →
      ∃ r cells, (execOp a.eval o).run P w = .ok r (w.setRow b cells) ∧ (r = .skip ∨ r = .value undef) ∧ R cells ∧ cells.size = n)
    (hGs : ∀ w b cs, G w → B0 ≤ b → G (w.setRow b cs)) :
    OpOk P ops Q G B0 plan a0 i o (.filledP t R T) ns := by
  simp only [fillOk, Bool.and_eq_true, beq_iff_eq, List.all_eq_true] at hchk
  obtain ⟨⟨⟨hk, hdst⟩, _⟩, hoth⟩ := hchk
  have hk' : k ∈ dep o := by simpa using hk
  intro a w hG hf
  refine ⟨fun _ => ?_, fun h => by simp [Region.wanted, hg] at h⟩
  obtain ⟨l0, h0, hm⟩ := hf0 a w hf
  rw [hmade] at hm
  obtain ⟨b, old, e1, e2, e3, e4, e5⟩ := hm
  obtain ⟨r, cells, hr, hr', hR, hcs⟩ := hrun a w b old hG hf e1 e4 e5
  have hpost : ∃ v, a.put o.dst undef = a.put o.dst v ∧ (Ent.filledP t R T).E v w.heap.size (w.setRow b cells).heap.size a (w.setRow b cells) ∧ Step ops.toList G B0 plan i o a w (w.setRow b cells) := by
    refine ⟨undef, rfl, ⟨b, cells, e1, hR, setRow_same e4⟩, .inr fun l h hknow hapart => ?_⟩
    obtain ⟨kE, kh, kl⟩ := hknow k hk' t hdst
    rw [hmade] at kE
    obtain ⟨b', old', f1, f2, f3, f4, f5⟩ := kE
    have hbb : b' = b := by
      rw [e1] at f1
      simpa using f1.symm
    subst hbb
    refine ⟨by rw [setRow_size]; exact Nat.le_refl _, hGs _ _ _ hG (by omega), fun j e he _ hp => e.hprow _ _ _ (fun hmem => by have := hold e (List.mem_of_getElem? he) _ hmem; omega) hp, fun j e he hji _ v lj hj hlj hhj hks hE => ?_⟩
    by_cases hjk : j = k
    · -- the block's own entry
      subst hjk
      have : e = .made T n := by
        rw [← hmade, List.getD_eq_getElem?_getD, he]; rfl
      subst this
      obtain ⟨b2, cs2, g1, g2, g3, g4, g5⟩ := hE
      by_cases hb2 : b2 = b'
      · subst hb2
        exact ⟨b2, cells, g1, g2, g3, setRow_same e4, hcs⟩
      · exact ⟨b2, cs2, g1, g2, g3, (setRow_other hb2).trans g4, g5⟩
    · refine e.hrow _ _ _ _ _ _ _ ?_ ?_ ?_ hE
      · rcases (hks k hk').1 (Ne.symm hjk) with h3 | h3 <;> omega
      · intro t' ht' hbad
        have := hoth (e.sl, j) (List.mem_iff_getElem?.2 ⟨j, by simp [he]⟩)
        have hji' : (j == i) = false := by simpa using hji
        simp only [hji', Bool.false_or, List.all_eq_true, List.any_eq_true, Bool.and_eq_true, bne_iff_ne, beq_iff_eq] at this
        obtain ⟨k2, hk2, ⟨⟨hne, hd2⟩, hn2⟩⟩ := this t' ht'
        obtain ⟨kE2, _, _⟩ := hknow k2 hk2 t' hd2
        rw [map_getD_news] at hn2
        obtain ⟨b3, m1, m2, m3⟩ := (plan.getD k2 .any).hnews hn2 _ _ _ _ _ kE2
        rw [hbad] at m1
        have hb3 : b' = b3 := by simpa using m1
        rcases hapart k2 hk2 k hk' hne with h3 | h3 <;> omega
      · intro hmem
        have := hold e (List.mem_of_getElem? he) _ hmem
        omega
  unfold Oper.wp
  rw [hr]
  rcases hr' with rfl | rfl
  · exact hpost
  · exact hpost

/-- the run of a store of a struct (an array) into a whole block -/
theorem run_store_row {a : Act} {w : World} (ty : TypeId) (x y : Operand) (ho : o.op = .store ty x y)
    (g : Nat) (cells : Array Value) (hx : a.eval x = .pointer (some ⟨g, 0, none⟩)) (hy : a.eval y = .agg cells)
    (t : TypeId) (old : Array Value) (hg : w.heap[g]? = some (.cells old t (0, 0))) (hi : (P.info? ty).map (·.size) = some cells.size)
    (hold : old.size = cells.size) (h1 : cells.all (·.oneCell') = true) : (execOp a.eval o).run P w = .ok .skip (w.setRow g cells) := by
  unfold execOp
  simp only [ho, hx, hy, Instr.storeAt, Instr.sureAddr, Sem.run_bind, Sem.run_pure, Result.andThen_ok, run_storeVar_row w g t ty old cells hg hi hold h1]

/-- a struct (an array) stored into a new block -/
theorem OpOk.fillRow {ty : TypeId} {t k : Nat} {y : Operand} {T : TypeId} {cells : Array Value} (hop : o.op = .store ty (.tmp t) y) (hg : o.guard = none)
    (hchk : fillOk ops.toList (plan.map (·.sl)) (plan.map (·.news)) i k t o = true)
    (hmade : plan.getD k .any = .made T cells.size) (hold : ∀ e ∈ plan, ∀ x ∈ e.old, x < B0)
    (hi : (P.info? ty).map (·.size) = some cells.size) (h1 : cells.all (·.oneCell') = true)
    (hf0 : ∀ a w, facts plan a0 a w ns → (∃ l h, (plan.getD k .any).E (a.eval (.tmp t)) l h a w) ∧ a.eval y = .agg cells)
    (hGs : ∀ w b cs, G w → B0 ≤ b → G (w.setRow b cs)) :
    OpOk P ops Q G B0 plan a0 i o (.filled t cells T) ns :=
  OpOk.fill hg hchk hmade hold (fun a w hf => (hf0 a w hf).1)
    (fun a w b old _ hf hp hb hs => ⟨_, cells, run_store_row ty (.tmp t) y hop b cells hp (hf0 a w hf).2 T old hb hi hs h1, .inl rfl, rfl, rfl⟩) hGs

/-- a value stored into a block that was there -/
theorem OpOk.known {b : Nat} {T : TypeId} {R : Array Value → Prop} (hg : o.guard = none) (hb : b < B0)
    (hsl : (plan.map (·.sl)).zipIdx.all (fun (sl, j) => j == i || sl.all fun t' => (dep o).any fun k' => ((ops.toList[k']?).bind (·.dst) == some t') && (plan.map (·.news)).getD k' false) = true)
    (hold : ∀ j e, plan[j]? = some e → j ≠ i → b ∉ e.old)
    (hrun : ∀ a w, G w → facts plan a0 a w ns → ∃ r old cells, w.heap[b]? = some (.cells old T (0, 0)) ∧ (execOp a.eval o).run P w = .ok r (w.setRow b cells) ∧ (r = .skip ∨ r = .value undef) ∧ R cells)
    (hGs : ∀ w cs, G w → G (w.setRow b cs)) :
    OpOk P ops Q G B0 plan a0 i o (.knownP b R T) ns := by
  simp only [List.all_eq_true] at hsl
  intro a w hG hf
  refine ⟨fun _ => ?_, fun h => by simp [Region.wanted, hg] at h⟩
  obtain ⟨r, old, cells, e4, hr, hr', hR⟩ := hrun a w hG hf
  have hpost : ∃ v, a.put o.dst undef = a.put o.dst v ∧ (Ent.knownP b R T).E v w.heap.size (w.setRow b cells).heap.size a (w.setRow b cells) ∧ Step ops.toList G B0 plan i o a w (w.setRow b cells) := by
    refine ⟨undef, rfl, ⟨cells, hR, setRow_same e4⟩, .inr fun l h hknow hapart => ?_⟩
    refine ⟨by rw [setRow_size]; exact Nat.le_refl _, hGs _ _ hG, fun j e he hji hp => e.hprow _ _ _ (hold j e he hji) hp, fun j e he hji _ v lj hj hlj hhj hks hE => ?_⟩
    refine e.hrow _ _ _ _ _ _ _ (.inl (by omega)) ?_ (hold j e he hji) hE
    intro t' ht' hbad
    have := hsl (e.sl, j) (List.mem_iff_getElem?.2 ⟨j, by simp [he]⟩)
    have hji' : (j == i) = false := by simpa using hji
    simp only [hji', Bool.false_or, List.all_eq_true, List.any_eq_true, Bool.and_eq_true, beq_iff_eq] at this
    obtain ⟨k2, hk2, hd2, hn2⟩ := this t' ht'
    obtain ⟨kE2, _, kl⟩ := hknow k2 hk2 t' hd2
    rw [map_getD_news] at hn2
    obtain ⟨b3, m1, m2, m3⟩ := (plan.getD k2 .any).hnews hn2 _ _ _ _ _ kE2
    rw [hbad] at m1
    have hb3 : b = b3 := by simpa using m1
    omega
  unfold Oper.wp
  rw [hr]
  rcases hr' with rfl | rfl
  · exact hpost
  · exact hpost

/-- a value stored into a block that was read before -/
theorem OpOk.turn {b : Nat} {T : TypeId} {cs0 : Array Value} {R : Array Value → Prop} (hg : o.guard = none) (hb : b < B0)
    (hsl : (plan.map (·.sl)).zipIdx.all (fun (sl, j) => j == i || sl.all fun t' => (dep o).any fun k' => ((ops.toList[k']?).bind (·.dst) == some t') && (plan.map (·.news)).getD k' false) = true)
    (hold : ∀ j e, plan[j]? = some e → j ≠ i → b ∉ e.old)
    (hrun : ∀ a w, G w → facts plan a0 a w ns → ∃ r old cells, w.heap[b]? = some (.cells old T (0, 0)) ∧ (execOp a.eval o).run P w = .ok r (w.setRow b cells) ∧ (r = .skip ∨ r = .value undef) ∧ R cells)
    (hGs : ∀ w cs, G w → G (w.setRow b cs)) :
    OpOk P ops Q G B0 plan a0 i o (.turn b cs0 R T) ns := by
  simp only [List.all_eq_true] at hsl
  intro a w hG hf
  refine ⟨fun _ => ?_, fun h => by simp [Region.wanted, hg] at h⟩
  obtain ⟨r, old, cells, e4, hr, hr', hR⟩ := hrun a w hG hf
  have hpost : ∃ v, a.put o.dst undef = a.put o.dst v ∧ (Ent.turn b cs0 R T).E v w.heap.size (w.setRow b cells).heap.size a (w.setRow b cells) ∧ Step ops.toList G B0 plan i o a w (w.setRow b cells) := by
    refine ⟨undef, rfl, ⟨cells, hR, setRow_same e4⟩, .inr fun l h hknow hapart => ?_⟩
    refine ⟨by rw [setRow_size]; exact Nat.le_refl _, hGs _ _ hG, fun j e he hji hp => e.hprow _ _ _ (hold j e he hji) hp, fun j e he hji _ v lj hj hlj hhj hks hE => ?_⟩
    refine e.hrow _ _ _ _ _ _ _ (.inl (by omega)) ?_ (hold j e he hji) hE
    intro t' ht' hbad
    have := hsl (e.sl, j) (List.mem_iff_getElem?.2 ⟨j, by simp [he]⟩)
    have hji' : (j == i) = false := by simpa using hji
    simp only [hji', Bool.false_or, List.all_eq_true, List.any_eq_true, Bool.and_eq_true, beq_iff_eq] at this
    obtain ⟨k2, hk2, hd2, hn2⟩ := this t' ht'
    obtain ⟨kE2, _, kl⟩ := hknow k2 hk2 t' hd2
    rw [map_getD_news] at hn2
    obtain ⟨b3, m1, m2, m3⟩ := (plan.getD k2 .any).hnews hn2 _ _ _ _ _ kE2
    rw [hbad] at m1
    have hb3 : b = b3 := by simpa using m1
    omega
  unfold Oper.wp
  rw [hr]
  rcases hr' with rfl | rfl
  · exact hpost
  · exact hpost


/-- one cell of a block -/
theorem setCell_row {w : World} {b o : Nat} {cs : Array Value} {T : TypeId} {v : Value} (h : w.heap[b]? = some (.cells cs T (0, 0))) :
    w.setCell ⟨b, o, none⟩ v = w.setRow b (cs.setIfInBounds o v) := by
  unfold World.setCell World.setRow
  congr 1
  apply Array.ext_getElem?
  intro k
  simp only [Array.getElem?_modify]
  by_cases hk : b = k
  · subst hk
    rw [if_pos rfl, if_pos rfl, h]
    simp
  · rw [if_neg hk, if_neg hk]

/-- one cell stored into a block that was there -/
theorem run_store_cell {a : Act} {w : World} (ty : TypeId) (x y : Operand) (ho : o.op = .store ty x y)
    (b off : Nat) (v : Value) (hx : a.eval x = .pointer (some ⟨b, off, none⟩)) (hy : a.eval y = v)
    (t : TypeId) (old : Array Value) (hg : w.heap[b]? = some (.cells old t (0, 0))) (hi : (P.info? ty).map (·.size) = some 1)
    (ho2 : off < old.size) (h1 : v.oneCell' = true) : (execOp a.eval o).run P w = .ok .skip (w.setRow b (old.setIfInBounds off v)) := by
  have hc : w.cell? ⟨b, off, none⟩ = some old[off] := by
    unfold World.cell?
    simp [hg, ho2]
  have hz : w.frozen? ⟨b, off, none⟩ = false := by
    unfold World.frozen?
    simp [hg]
  have hvc : v.cells = #[v] := by cases v <;> first | rfl | (simp [Value.oneCell'] at h1; done)
  have hst : (store (⟨b, off, none⟩ : Addr) v).run P w = .ok () (w.setCell ⟨b, off, none⟩ v) := by
    rw [run_store P w _ v _ h1, hc, hz]; rfl
  have hadd : (⟨b, off, none⟩ : Addr).add 0 = ⟨b, off, none⟩ := rfl
  have hsv : (storeVar ty ⟨b, off, none⟩ v).run P w = .ok () (w.setRow b (old.setIfInBounds off v)) := by
    cases hq : P.info? ty with
    | none => simp [hq] at hi
    | some i =>
      have hs : i.size = 1 := by simpa [hq] using hi
      rw [← setCell_row hg]
      simp [storeVar, Go.sizeOf, Go.typeInfo, hq, hvc, hs, storeCells, hadd, hst]
  unfold execOp
  simp only [ho, hx, hy, Instr.storeAt, Instr.sureAddr, Sem.run_bind, Sem.run_pure, Result.andThen_ok, hsv]
end
end JR
