import Derived.Test.YtbfanhdofopnnaaGreatJd
import Derived.Test.YtbfanhdofopnnaaGreatJa
import Derived.ArgAppend
import Derived.Test.YtbfanhdofopnnaaGreatIv
import Derived.Test.YtbfanhdofopnnaaGreatQN
import Derived.Test.YtbfanhdofopnnaaGreatQW
import Derived.Test.YtbfanhdofopnnaaGreatSg
import Derived.Test.YtbfanhdofopnnaaGreatQV
import Derived.LoopN
import Derived.Test.YtbfanhdofopnnaaGreatJb
import Derived.Test.YtbfanhdofopnnaaGreatRa
set_option linter.unusedSimpArgs false
set_option linter.unusedVariables false
/-! A region that draws its order, each operation shown once, in whatever order they come. -/
namespace JQ
open Go Go.RowKit
open JR (Ext setRow_other setRow_same setRow_size lt_of_some Keep dep backL uniqL putsL allPut putsL_all putsL_none putsL_congr putsL_put uniqL_tail uniqL_head uniqL_lt putsL_step putsL_eval put_size putsL_size eval_put_same backL_get mem_dep alloc_get)

/-- what is known of an operation's value (it made the blocks from number l up to h), of other slots and of the world, once it has come -/
structure Ent where
 E : Value → Nat → Nat → Act → World → Prop
 sl : List Nat
 old : List Nat
 still : Bool
 news : Bool
 pre : World → Prop := fun _ => True
 hsl : ∀ v l h a a' w, (∀ t, t ∈ sl → a.eval (.tmp t) = a'.eval (.tmp t)) → E v l h a w → E v l h a' w
 hext : ∀ v l h a w w', h ≤ w.heap.size → Ext w w' → E v l h a w → E v l h a w'
 hstill : still = true → ∀ v l h a w w', E v l h a w → E v l h a w'
 hnews : news = true → ∀ v l h a w, E v l h a w → ∃ b, v = .pointer (some ⟨b, 0, none⟩) ∧ l ≤ b ∧ b < h
 hpext : ∀ w w', Ext w w' → pre w → pre w'

def Ent.val (x : Value) : Ent where
 E := fun v _ _ _ _ => v = x
 sl := []
 old := []
 still := true
 news := false
 hsl := fun _ _ _ _ _ _ _ h => h
 hext := fun _ _ _ _ _ _ _ _ h => h
 hstill := fun _ _ _ _ _ _ _ h => h
 hnews := fun h => Bool.noConfusion h
 hpext := fun _ _ _ h => h

def Ent.any : Ent where
 E := fun _ _ _ _ _ => True
 sl := []
 old := []
 still := true
 news := false
 hsl := fun _ _ _ _ _ _ _ h => h
 hext := fun _ _ _ _ _ _ _ _ h => h
 hstill := fun _ _ _ _ _ _ _ h => h
 hnews := fun h => Bool.noConfusion h
 hpext := fun _ _ _ h => h

/-- of the value and of the blocks that the operation made -/
def Ent.rel (R : Value → Nat → Nat → World → Prop)
  (h : ∀ v l h w w', (∀ b, l ≤ b → b < h → w'.heap[b]? = w.heap[b]?) → R v l h w → R v l h w') : Ent where
 E := fun v l h _ w => R v l h w
 sl := []
 old := []
 still := false
 news := false
 hsl := fun _ _ _ _ _ _ _ h => h
 hext := fun v l h' _ w w' hs e r => h v l h' w w' (fun b _ h2 => e.block b (by omega)) r
 hstill := fun h => Bool.noConfusion h
 hnews := fun h => Bool.noConfusion h
 hpext := fun _ _ _ h => h

/-- a new block of k cells -/
def Ent.made (T : TypeId) (k : Nat) : Ent where
 E := fun v l h _ w => ∃ b cs, v = .pointer (some ⟨b, 0, none⟩) ∧ l ≤ b ∧ b < h ∧ w.heap[b]? = some (.cells cs T (0, 0)) ∧ cs.size = k
 sl := []
 old := []
 still := false
 news := true
 hsl := fun _ _ _ _ _ _ _ h => h
 hext := fun _ _ _ _ _ _ hs e ⟨b, cs, h1, h2, h3, h4, h5⟩ => ⟨b, cs, h1, h2, h3, (e.block b (by omega)).trans h4, h5⟩
 hstill := fun h => Bool.noConfusion h
 hnews := fun _ _ _ _ _ _ ⟨b, _, h1, h2, h3, _⟩ => ⟨b, h1, h2, h3⟩
 hpext := fun _ _ _ h => h

/-- of the value alone -/
def Ent.of (R : Value → Prop) : Ent where
 E := fun v _ _ _ _ => R v
 sl := []
 old := []
 still := true
 news := false
 hsl := fun _ _ _ _ _ _ _ h => h
 hext := fun _ _ _ _ _ _ _ _ h => h
 hstill := fun _ _ _ _ _ _ _ h => h
 hnews := fun h => Bool.noConfusion h
 hpext := fun _ _ _ h => h

/-- a fact on slots speaks of slots that nothing writes that may come later -/
def slotsL (ops : List Oper) : List Oper → List Ent → Bool
 | o :: l, e :: es => (ops.zipIdx.all fun (x, k) => match x.dst with | some d => !e.sl.contains d || (dep o).contains k | none => true) && slotsL ops l es
 | _, _ => true

/-- what an operation wants to know: a slot as it was when the region began; a slot (or an effect) of an operation that has come -/
inductive Need where
 | ini (t : Nat)
 | frm (k : Nat) (t : Nat)
 | eff (k : Nat)
 | til (k : Nat)

def needOk (ops : List Oper) (i : Nat) (o : Oper) : Need → Bool
 | .ini t => ops.zipIdx.all fun (x, k) => k == i || x.dst != some t || (dep x).contains i
 | .frm k t => (dep o).contains k && ((ops[k]?).bind (·.dst) == some t)
 | .eff k => (dep o).contains k
 | .til k => ((ops[k]?).map fun x => k == i || (dep x).contains i).getD false

def needsOk (ops : List Oper) : Nat → List Oper → List (List Need) → Bool
 | _, [], [] => true
 | i, o :: l, n :: ns => n.all (needOk ops i o) && needsOk ops (i + 1) l ns
 | _, _, _ => false

def Need.fact (plan : List Ent) (a0 a : Act) (w : World) : Need → Prop
 | .ini t => a.eval (.tmp t) = a0.eval (.tmp t)
 | .frm k t => ∃ l h, (plan.getD k .any).E (a.eval (.tmp t)) l h a w
 | .eff k => ∃ v l h, (plan.getD k .any).E v l h a w
 | .til k => (plan.getD k .any).pre w

def facts (plan : List Ent) (a0 a : Act) (w : World) : List Need → Prop
 | [] => True
 | n :: l => n.fact plan a0 a w ∧ facts plan a0 a w l

/-- the step that an operation makes in the world -/
def Step (ops : List Oper) (G : World → Prop) (B0 : Nat) (plan : List Ent) (i : Nat) (o : Oper) (a : Act) (w w' : World) : Prop :=
 Ext w w' ∨ ∀ l h : Nat → Nat,
  (∀ k ∈ dep o, ∀ t, (ops[k]?).bind (·.dst) = some t → (plan.getD k .any).E (a.eval (.tmp t)) (l k) (h k) a w ∧ h k ≤ w.heap.size ∧ B0 ≤ l k) →
  (∀ k ∈ dep o, ∀ k' ∈ dep o, k ≠ k' → h k ≤ l k' ∨ h k' ≤ l k) →
  w.heap.size ≤ w'.heap.size ∧ G w' ∧ (∀ j e, plan[j]? = some e → j ≠ i → e.pre w → e.pre w') ∧ ∀ j e, plan[j]? = some e → j ≠ i → e.still = false → ∀ v lj hj, B0 ≤ lj → hj ≤ w.heap.size →
   (∀ k ∈ dep o, (k ≠ j → h k ≤ lj ∨ hj ≤ l k) ∧ (k = j → l k = lj ∧ h k = hj)) → e.E v lj hj a w → e.E v lj hj a w'

/-- what is to be shown of one operation -/
def OpOk (P : Program) (ops : Array Oper) (Q : Exit → Act → World → Prop) (G : World → Prop) (B0 : Nat) (plan : List Ent) (a0 : Act) (i : Nat) (o : Oper) (e : Ent) (ns : List Need) : Prop :=
 ∀ a w, G w → facts plan a0 a w ns →
  (Region.wanted o (yielded ops a.tmps) = true → o.wp P a w (fun a' w' => ∃ v, a' = a.put o.dst v ∧ e.E v w.heap.size w'.heap.size a w' ∧ Step ops.toList G B0 plan i o a w w') Q) ∧
  (Region.wanted o (yielded ops a.tmps) = false → e.E undef w.heap.size w.heap.size a w)

def opsOk (P : Program) (ops : Array Oper) (Q : Exit → Act → World → Prop) (G : World → Prop) (B0 : Nat) (plan : List Ent) (a0 : Act) : Nat → List Oper → List Ent → List (List Need) → Prop
 | _, [], [], [] => True
 | i, o :: l, e :: es, n :: ns => OpOk P ops Q G B0 plan a0 i o e n ∧ opsOk P ops Q G B0 plan a0 (i + 1) l es ns
 | _, _, _, _ => False

/-- what is known at the end -/
def allE (u : Nat → Value) (l h : Nat → Nat) (a : Act) (w : World) : Nat → List Ent → Prop
 | _, [] => True
 | i, e :: es => e.E (u i) (l i) (h i) a w ∧ allE u l h a w (i + 1) es

theorem allE_of {u : Nat → Value} {l h : Nat → Nat} {a : Act} {w : World} : ∀ (es : List Ent) (i : Nat), (∀ (j : Nat) (e : Ent), es[j]? = some e → e.E (u (i + j)) (l (i + j)) (h (i + j)) a w) → allE u l h a w i es := by
 intro es
 induction es with
 | nil => intro i _; trivial
 | cons e es ih =>
  intro i h
  exact ⟨h 0 e (by simp), ih (i + 1) fun j e' he => by rw [show i + 1 + j = i + (j + 1) from by omega]; exact h (j + 1) e' (by simpa using he)⟩

theorem opsOk_get {P : Program} {ops : Array Oper} {Q : Exit → Act → World → Prop} {G : World → Prop} {B0 : Nat} {plan : List Ent} {a0 : Act} :
  ∀ (l : List Oper) (es : List Ent) (ns : List (List Need)) (i : Nat), opsOk P ops Q G B0 plan a0 i l es ns → l.length = es.length ∧
   ∀ j o, l[j]? = some o → ∃ e n, es[j]? = some e ∧ ns[j]? = some n ∧ OpOk P ops Q G B0 plan a0 (i + j) o e n := by
 intro l
 induction l with
 | nil =>
  intro es ns i h
  cases es <;> cases ns <;> simp [opsOk] at h ⊢
 | cons o l ih =>
  intro es ns i h
  cases es with
  | nil => cases ns <;> simp [opsOk] at h
  | cons e es =>
   cases ns with
   | nil => simp [opsOk] at h
   | cons n ns =>
    obtain ⟨h1, h2⟩ := h
    obtain ⟨h3, h4⟩ := ih es ns (i + 1) h2
    refine ⟨by simp [h3], fun j x hx => ?_⟩
    cases j with
    | zero =>
     simp at hx; subst hx
     exact ⟨e, n, rfl, rfl, h1⟩
    | succ j =>
     obtain ⟨e', n', a1, a2, a3⟩ := h4 j x (by simpa using hx)
     exact ⟨e', n', by simpa using a1, by simpa using a2, by rw [show i + (j + 1) = i + 1 + j from by omega]; exact a3⟩

theorem needsOk_get {ops : List Oper} : ∀ (l : List Oper) (ns : List (List Need)) (i : Nat), needsOk ops i l ns = true →
  ∀ j o n, l[j]? = some o → ns[j]? = some n → ∀ x ∈ n, needOk ops (i + j) o x = true := by
 intro l
 induction l with
 | nil => intro ns i _ j o n ho; simp at ho
 | cons a l ih =>
  intro ns i h j o n ho hn x hx
  cases ns with
  | nil => simp [needsOk] at h
  | cons m ns =>
   simp only [needsOk, Bool.and_eq_true, List.all_eq_true] at h
   cases j with
   | zero => simp at ho hn; subst ho; subst hn; exact h.1 x hx
   | succ j =>
    rw [show i + (j + 1) = i + 1 + j from by omega]
    exact ih ns (i + 1) h.2 j o n (by simpa using ho) (by simpa using hn) x hx

theorem facts_of {plan : List Ent} {a0 a : Act} {w : World} : ∀ {ns : List Need}, (∀ n ∈ ns, n.fact plan a0 a w) → facts plan a0 a w ns := by
 intro ns
 induction ns with
 | nil => intro _; trivial
 | cons n ns ih => intro h; exact ⟨h n List.mem_cons_self, ih fun m hm => h m (List.mem_cons_of_mem _ hm)⟩

theorem slotsL_get {ops : List Oper} : ∀ (l : List Oper) (es : List Ent), slotsL ops l es = true → ∀ (j : Nat) (o : Oper) (e : Ent), l[j]? = some o → es[j]? = some e →
  ∀ (k : Nat) (x : Oper), ops[k]? = some x → ∀ (d : Nat), x.dst = some d → d ∈ e.sl → k ∈ dep o := by
 intro l
 induction l with
 | nil => intro es _ j o e ho; simp at ho
 | cons y l ih =>
  intro es h j o e ho he k x hx d hd hm
  cases es with
  | nil => simp at he
  | cons z es =>
   simp only [slotsL, Bool.and_eq_true, List.all_eq_true] at h
   cases j with
   | zero =>
    simp at ho he; subst ho; subst he
    have := h.1 (x, k) (List.mem_iff_getElem?.2 ⟨k, by simp [hx]⟩)
    simp [hd, hm] at this
    exact this
   | succ j => exact ih es h.2 j o e (by simpa using ho) (by simpa using he) k x hx d hd hm

section
variable {P : Program} {ops : Array Oper} {Q : Exit → Act → World → Prop} {G : World → Prop} {B0 : Nat} {plan : List Ent} {a0 : Act} {ns : List (List Need)}

/-- the walk through a region in whatever order -/
theorem wpAny_J (hback : backL 0 ops.toList = true) (huniq : uniqL a0.tmps.size ops.toList = true) (hslots : slotsL ops.toList ops.toList plan = true)
  (hneeds : needsOk ops.toList 0 ops.toList ns = true) (hGE : ∀ w w', Ext w w' → G w → G w') (hGB : ∀ w, G w → B0 ≤ w.heap.size)
  (hok : opsOk P ops Q G B0 plan a0 0 ops.toList plan ns)
  (hend : ∀ u l h w, G w → allE u l h (allPut u 0 ops.toList a0) w 0 plan → (∀ j, j < ops.size → h j ≤ w.heap.size ∧ B0 ≤ l j) → (∀ j k, j < ops.size → k < ops.size → j ≠ k → h j ≤ l k ∨ h k ≤ l j) → Q .normal (allPut u 0 ops.toList a0) w) :
  ∀ (fuel : Nat) (listed : Array Bool) (u : Nat → Value) (l h : Nat → Nat) (w : World),
   listed.size = ops.size → (listed.toList.filter (! ·)).length = fuel →
   (∀ j o, ops[j]? = some o → listed.getD j false = true → ∀ x ∈ dep o, listed.getD x false = true) →
   G w → (∀ j e, plan[j]? = some e → listed.getD j false = true → e.E (u j) (l j) (h j) (putsL (fun j => listed.getD j false) u 0 ops.toList a0) w) →
   (∀ j e, plan[j]? = some e → listed.getD j false = false → e.pre w) →
   (∀ j, listed.getD j false = true → h j ≤ w.heap.size ∧ B0 ≤ l j) →
   (∀ j k, listed.getD j false = true → listed.getD k false = true → j ≠ k → h j ≤ l k ∨ h k ≤ l j) →
   wpAny P .any ops Q fuel listed (putsL (fun j => listed.getD j false) u 0 ops.toList a0) w := by
 obtain ⟨hlen, hget⟩ := opsOk_get _ _ _ _ hok
 intro fuel
 induction fuel with
 | zero =>
  intro listed u l h w hsz hcount hdown hG hE hP hF hD
  have hall : ∀ j, j < ops.size → listed.getD j false = true := by
   intro j hj
   have hj' : j < listed.size := by omega
   have hmem : listed[j] ∈ listed.toList := by simp
   rcases Bool.eq_false_or_eq_true listed[j] with h | h
   ·simp [hj', h]
   ·exfalso
    have : listed[j] ∈ listed.toList.filter (! ·) := List.mem_filter.2 ⟨hmem, by simp [h]⟩
    rw [List.length_eq_zero_iff.1 hcount] at this
    cases this
  have hput : putsL (fun j => listed.getD j false) u 0 ops.toList a0 = allPut u 0 ops.toList a0 :=
   putsL_all _ _ _ _ _ fun j _ h2 => hall j (by simpa using h2)
  refine ⟨?_, ?_⟩
  ·cases hr : Region.ready .any ops listed with
   | nil => rfl
   | cons i is =>
    have hi : i ∈ Region.ready .any ops listed := by rw [hr]; exact List.mem_cons_self
    obtain ⟨h0, o, ho, _⟩ := mem_ready.1 hi
    have hlt : i < ops.size := by
     rcases Nat.lt_or_ge i ops.size with h | h
     ·exact h
     ·simp [Array.getElem?_eq_none h] at ho
    have h1 := hall i hlt
    have hlt' : i < listed.size := by omega
    simp [hlt'] at h0 h1
    rw [h0] at h1; cases h1
  ·rw [hput]
   refine hend u l h w hG (allE_of _ _ fun j e he => ?_) (fun j hj => hF j (hall j hj)) (fun j k hj hk hne => hD j k (hall j hj) (hall k hk) hne)
   have hj : j < ops.size := by
    have : j < plan.length := by
     rcases Nat.lt_or_ge j plan.length with h | h
     ·exact h
     ·simp [List.getElem?_eq_none h] at he
    have hl : ops.toList.length = ops.size := by simp
    omega
   have := hE j e he (hall j hj)
   rw [hput] at this
   simpa using this
 | succ fuel ih =>
  intro listed u l h w hsz hcount hdown hG hE hP hF hD
  have hstep : ∀ i ∈ Region.ready .any ops listed,
    wpOp P ops Q i (wpAny P .any ops Q fuel (listed.setIfInBounds i true)) (putsL (fun j => listed.getD j false) u 0 ops.toList a0) w := by
   intro i hi
   obtain ⟨h0, o, ho, hall⟩ := mem_ready.1 hi
   have hlt : i < ops.size := by
    rcases Nat.lt_or_ge i ops.size with h | h
    ·exact h
    ·simp [Array.getElem?_eq_none h] at ho
   have hlt' : i < listed.size := by omega
   have hLi : listed.getD i false = false := by simp [hlt'] at h0 ⊢; exact h0
   have hol : ops.toList[i]? = some o := by simpa using ho
   obtain ⟨e, n, he, hn, hOp⟩ := hget i o hol
   rw [Nat.zero_add] at hOp
   have hdepL : ∀ x ∈ dep o, listed.getD x false = true := fun x hx => by
    obtain ⟨ed, h1, h2, rfl⟩ := mem_dep.1 hx
    exact hall ed h1 h2
   -- a slot of what has come holds what came
   have hslot : ∀ k ok t, ops[k]? = some ok → listed.getD k false = true → ok.dst = some t →
     (putsL (fun j => listed.getD j false) u 0 ops.toList a0).eval (.tmp t) = u k := by
    intro k ok t hok1 hkL hok2
    have hlisted : (fun j => listed.getD j false) = fun j => if j = k then true else (listed.setIfInBounds k false).getD j false := by
     funext j
     by_cases hjk : j = k
     ·subst hjk; simp [hkL]
     ·simp [hjk, Array.getElem?_setIfInBounds_ne (Ne.symm hjk)]
    have hu : u = fun j => if j = k then u k else u j := by funext j; split <;> simp_all
    rw [hlisted]
    rw [hu]
    rw [putsL_step _ 0 k _ huniq (Nat.zero_le _) ok (by simpa using hok1) (by
     have : k < ops.size := by
      rcases Nat.lt_or_ge k ops.size with h | h
      ·exact h
      ·rw [Array.getElem?_eq_none h] at hok1; cases hok1
     simp [show k < listed.size by omega])]
    rw [hok2]
    refine (eval_put_same ?_).trans (by simp)
    rw [putsL_size]
    exact uniqL_lt huniq ok (List.mem_of_getElem? (by simpa using hok1)) t hok2
   -- what the operation wants to know
   have hfacts : facts plan a0 (putsL (fun j => listed.getD j false) u 0 ops.toList a0) w n := by
    refine facts_of fun x hx => ?_
    have hok' := needsOk_get _ _ _ hneeds i o n hol hn x hx
    rw [Nat.zero_add] at hok'
    cases x with
    | ini t =>
     simp only [needOk, List.all_eq_true] at hok'
     refine putsL_eval _ _ _ fun k ok hk hL hdst => ?_
     rw [Nat.zero_add] at hL
     have h1 := hok' (ok, k) (List.mem_iff_getElem?.2 ⟨k, by simp [hk]⟩)
     have hki : k ≠ i := fun h => by rw [h, hLi] at hL; cases hL
     have hmem : i ∈ dep ok := by
      have hki' : (k == i) = false := by simpa using hki
      simp [hki', hdst] at h1
      exact h1
     have := hdown k ok (by simpa using hk) hL i hmem
     rw [hLi] at this; cases this
    | frm k t =>
     simp only [needOk, Bool.and_eq_true, beq_iff_eq] at hok'
     obtain ⟨hk1, hk2⟩ := hok'
     have hkd : k ∈ dep o := by simpa using hk1
     have hkL := hdepL k hkd
     obtain ⟨ok, hok1, hok2⟩ := Option.bind_eq_some_iff.1 hk2
     obtain ⟨ek, nk, hek, _, _⟩ := hget k ok hok1
     have hEk := hE k ek hek hkL
     show ∃ l h, (plan.getD k .any).E _ l h _ _
     have hgd : plan.getD k .any = ek := by simp [hek]
     rw [hgd]
     have hv := hslot k ok t (by simpa using hok1) hkL hok2
     rw [hv]
     exact ⟨_, _, hEk⟩
    | til k =>
     simp only [needOk] at hok'
     cases hok2 : ops.toList[k]? with
     | none => rw [hok2] at hok'; cases hok'
     | some ok =>
      rw [hok2] at hok'
      have hmem : k = i ∨ i ∈ dep ok := by simpa using hok'
      cases hpk : plan[k]? with
      | none => simp [Need.fact, hpk, Ent.any]
      | some ek =>
       have : (plan.getD k .any) = ek := by simp [hpk]
       show (plan.getD k .any).pre w
       rw [this]
       refine hP k ek hpk ?_
       rcases Bool.eq_false_or_eq_true (listed.getD k false) with h1 | h1
       ·rcases hmem with hmem | hmem
        ·rw [hmem, hLi] at h1; cases h1
        ·have := hdown k ok (by simpa using hok2) h1 i hmem
         rw [hLi] at this; cases this
       ·exact h1
    | eff k =>
     have hkd : k ∈ dep o := by simpa [needOk] using hok'
     have hkL := hdepL k hkd
     cases hpk : plan[k]? with
     | none => exact ⟨undef, 0, 0, by simp [hpk, Ent.any]⟩
     | some ek => exact ⟨u k, l k, h k, by simp only [List.getD_eq_getElem?_getD, hpk, Option.getD_some]; exact hE k ek hpk hkL⟩
   obtain ⟨hw1, hw2⟩ := hOp _ w hG hfacts
   -- behind it
   have hnext : ∀ v w', e.E v w.heap.size w'.heap.size (putsL (fun j => listed.getD j false) u 0 ops.toList a0) w' → Step ops.toList G B0 plan i o (putsL (fun j => listed.getD j false) u 0 ops.toList a0) w w' →
     wpAny P .any ops Q fuel (listed.setIfInBounds i true) ((putsL (fun j => listed.getD j false) u 0 ops.toList a0).put o.dst v) w' := by
    intro v w' hev hst
    have hL' : (fun j => (listed.setIfInBounds i true).getD j false) = fun j => if j = i then true else listed.getD j false := by
     funext j
     by_cases hji : j = i
     ·subst hji; simp [hlt']
     ·simp [hji, Array.getElem?_setIfInBounds_ne (Ne.symm hji)]
    have hput := putsL_step (L := fun j => listed.getD j false) (u := u) (v := v) ops.toList 0 i a0 huniq (Nat.zero_le _) o (by simpa using hol) hLi
    rw [← hput, ← hL']
    -- what the step leaves
    have hstep2 : w.heap.size ≤ w'.heap.size ∧ G w' ∧ (∀ j ej, plan[j]? = some ej → j ≠ i → ej.pre w → ej.pre w') ∧ ∀ j ej, plan[j]? = some ej → j ≠ i → listed.getD j false = true → ej.E (u j) (l j) (h j) (putsL (fun j => listed.getD j false) u 0 ops.toList a0) w' := by
     rcases hst with hx | hx
     ·exact ⟨hx.size, hGE _ _ hx hG, fun j ej _ _ hp => ej.hpext _ _ hx hp, fun j ej hej _ hLj => ej.hext _ _ _ _ _ _ (hF j hLj).1 hx (hE j ej hej hLj)⟩
     ·have hknow : ∀ k ∈ dep o, ∀ t, (ops.toList[k]?).bind (·.dst) = some t → (plan.getD k .any).E ((putsL (fun j => listed.getD j false) u 0 ops.toList a0).eval (.tmp t)) (l k) (h k) (putsL (fun j => listed.getD j false) u 0 ops.toList a0) w ∧ h k ≤ w.heap.size ∧ B0 ≤ l k := by
       intro k hk t ht
       obtain ⟨ok, hok1, hok2⟩ := Option.bind_eq_some_iff.1 ht
       obtain ⟨ek, nk, hek, _, _⟩ := hget k ok hok1
       rw [hslot k ok t (by simpa using hok1) (hdepL k hk) hok2]
       have hgd : plan.getD k .any = ek := by simp [hek]
       rw [hgd]
       exact ⟨hE k ek hek (hdepL k hk), hF k (hdepL k hk)⟩
      obtain ⟨s1, s2, s4, s3⟩ := hx l h hknow (fun k hk k' hk' hne => hD k k' (hdepL k hk) (hdepL k' hk') hne)
      refine ⟨s1, s2, s4, fun j ej hej hji hLj => ?_⟩
      have hE0 := hE j ej hej hLj
      cases hs : ej.still with
      | true => exact ej.hstill hs _ _ _ _ _ _ hE0
      | false =>
       refine s3 j ej hej hji hs _ _ _ (hF j hLj).2 (hF j hLj).1 (fun k hk => ⟨fun hkj => hD k j (hdepL k hk) hLj hkj, fun hkj => by rw [hkj]; exact ⟨rfl, rfl⟩⟩) hE0
    obtain ⟨hsize, hG', hP', hE'⟩ := hstep2
    refine ih (listed.setIfInBounds i true) (fun j => if j = i then v else u j) (fun j => if j = i then w.heap.size else l j) (fun j => if j = i then w'.heap.size else h j) w' (by simpa using hsz) ?_ ?_ hG' ?_ ?_ ?_ ?_
    ·-- one fewer is left
     have hperm : ∀ (l : List Bool) (i : Nat) (hi : i < l.length), l[i] = false → ((l.set i true).filter (! ·)).length + 1 = (l.filter (! ·)).length := by
      intro l
      induction l with
      | nil => intro i hi; simp at hi
      | cons b l ihl =>
       intro i hi hb
       cases i with
       | zero => simp at hb; subst hb; simp
       | succ i =>
        simp only [List.set_cons_succ, List.filter_cons]
        have := ihl i (by simpa using hi) (by simpa using hb)
        cases b <;> simp <;> omega
     have := hperm listed.toList i (by simpa using hlt') (by simp [hlt'] at hLi; simpa using hLi)
     rw [Array.toList_setIfInBounds]
     omega
    ·intro j oj hoj hLj x hx
     by_cases hxi : x = i
     ·subst hxi; simp [hlt']
     ·rw [show (listed.setIfInBounds i true).getD x false = listed.getD x false from by simp [Array.getElem?_setIfInBounds_ne (Ne.symm hxi)]]
      by_cases hji : j = i
      ·subst hji
       rw [ho] at hoj; cases hoj
       exact hdepL x hx
      ·exact hdown j oj hoj (by simpa [Array.getElem?_setIfInBounds_ne (Ne.symm hji)] using hLj) x hx
    ·intro j ej hej hLj
     rw [hL', hput]
     by_cases hji : j = i
     ·subst hji
      rw [he] at hej; cases hej
      simp only [if_true]
      refine e.hsl _ _ _ _ _ _ (fun t ht => ?_) hev
      refine (Act.eval_put fun d hd ht' => ?_).symm
      cases ht'
      have hself := slotsL_get _ _ hslots j o e hol he j o hol t hd ht
      have := backL_get _ _ hback j o hol j hself
      omega
     ·simp only [hji, if_false]
      have hLj' : listed.getD j false = true := by simpa [Array.getElem?_setIfInBounds_ne (Ne.symm hji)] using hLj
      refine ej.hsl _ _ _ _ _ _ (fun t ht => ?_) (hE' j ej hej hji hLj')
      refine (Act.eval_put fun d hd ht' => ?_).symm
      cases ht'
      have hoj : ∃ oj, ops[j]? = some oj := by
       have hl : ops.toList.length = ops.size := by simp
       have : j < plan.length := by
        rcases Nat.lt_or_ge j plan.length with h | h
        ·exact h
        ·simp [List.getElem?_eq_none h] at hej
       exact ⟨ops[j]'(by omega), by simp [show j < ops.size by omega]⟩
      obtain ⟨oj, hoj⟩ := hoj
      have hmem := slotsL_get _ _ hslots j oj ej (by simpa using hoj) hej i o hol t hd ht
      have := hdown j oj hoj hLj' i hmem
      rw [hLi] at this; cases this
    ·intro j ej hej hLj
     have hji : j ≠ i := fun hji => by subst hji; simp [hlt'] at hLj
     exact hP' j ej hej hji (hP j ej hej (by simpa [Array.getElem?_setIfInBounds_ne (Ne.symm hji)] using hLj))
    ·intro j hLj
     by_cases hji : j = i
     ·subst hji
      simp only [if_true]
      exact ⟨Nat.le_refl _, hGB w hG⟩
     ·have hLj' : listed.getD j false = true := by simpa [Array.getElem?_setIfInBounds_ne (Ne.symm hji)] using hLj
      simp only [hji, if_false]
      exact ⟨Nat.le_trans (hF j hLj').1 hsize, (hF j hLj').2⟩
    ·intro j k hLj hLk hjk
     have back : ∀ j, j ≠ i → (listed.setIfInBounds i true).getD j false = true → listed.getD j false = true := fun j hji h => by
      simpa [Array.getElem?_setIfInBounds_ne (Ne.symm hji)] using h
     by_cases hji : j = i
     ·subst hji
      have hki : k ≠ j := Ne.symm hjk
      simp only [if_true, hki, if_false]
      exact .inr (hF k (back k hki hLk)).1
     ·by_cases hki : k = i
      ·subst hki
       simp only [if_true, hji, if_false]
       exact .inl (hF j (back j hji hLj)).1
      ·simp only [hji, hki, if_false]
       exact hD j k (back j hji hLj) (back k hki hLk) hjk
   unfold wpOp
   rw [ho]
   dsimp only
   cases hwant : Region.wanted o (yielded ops (putsL (fun j => listed.getD j false) u 0 ops.toList a0).tmps) with
   | true =>
    rw [if_pos rfl]
    refine .inl (Oper.wp_mono ?_ (hw1 hwant))
    rintro a' w' ⟨v, rfl, hev, hst⟩
    exact hnext v w' hev hst
   | false =>
    rw [if_neg (by simp)]
    exact hnext undef w (hw2 hwant) (.inl (Ext.refl w))
  refine ⟨fun hnil => ?_, hstep⟩
  -- something may always come up
  exfalso
  have hex : ∃ j, j < listed.size ∧ listed.getD j true = false := by
   have : (listed.toList.filter (! ·)) ≠ [] := fun h => by rw [h] at hcount; simp at hcount
   obtain ⟨b, hb⟩ := List.exists_mem_of_ne_nil _ this
   obtain ⟨hb1, hb2⟩ := List.mem_filter.1 hb
   obtain ⟨j, hj, hjb⟩ := List.mem_iff_getElem.1 hb1
   have hj' : j < listed.size := by simpa using hj
   refine ⟨j, hj', ?_⟩
   have : listed[j] = false := by
    rw [show listed[j] = b from by simpa using hjb]; simpa using hb2
   simp [hj', this]
  have hleast : ∀ m j, j ≤ m → j < listed.size → listed.getD j true = false → False := by
   intro m
   induction m with
   | zero =>
    intro j hj hlt h0
    have hj0 : j = 0 := by omega
    subst hj0
    have : (0 : Nat) ∈ Region.ready .any ops listed := by
     rw [mem_ready]
     refine ⟨h0, ops[0], by simp [show 0 < ops.size by omega], fun ed h1 h2 => ?_⟩
     exfalso
     have := backL_get _ _ hback 0 ops[0] (by simp [show 0 < ops.size by omega]) ed.on (mem_dep.2 ⟨ed, h1, h2, rfl⟩)
     omega
    rw [hnil] at this; cases this
   | succ m ihm =>
    intro j hj hlt h0
    have : j ∈ Region.ready .any ops listed := by
     rw [mem_ready]
     refine ⟨h0, ops[j], by simp [show j < ops.size by omega], fun ed h1 h2 => ?_⟩
     have hlt2 := backL_get _ _ hback j ops[j] (by simp [show j < ops.size by omega]) ed.on (mem_dep.2 ⟨ed, h1, h2, rfl⟩)
     rcases Bool.eq_false_or_eq_true (listed.getD ed.on false) with h | h
     ·exact h
     ·exfalso
      refine ihm ed.on (by omega) (by omega) ?_
      have hlt3 : ed.on < listed.size := by omega
      simp [hlt3] at h ⊢; exact h
    rw [hnil] at this; cases this
  obtain ⟨j, hj, h0⟩ := hex
  exact hleast j j (Nat.le_refl _) hj h0

/-- **a region that draws its order, each operation shown once** -/
theorem wp_region_J {id : Nat} {w0 : World} (hm : P.follows .mixedOrders = true)
  (hchk : (backL 0 ops.toList && uniqL a0.tmps.size ops.toList && needsOk ops.toList 0 ops.toList ns) = true) (hslots : slotsL ops.toList ops.toList plan = true)
  (hpre : ∀ e ∈ plan, e.pre w0.drew) (hG : G w0.drew) (hGE : ∀ w w', Ext w w' → G w → G w') (hGB : ∀ w, G w → B0 ≤ w.heap.size)
  (hok : opsOk P ops Q G B0 plan a0 0 ops.toList plan ns)
  (hend : ∀ u l h w, G w → allE u l h (allPut u 0 ops.toList a0) w 0 plan → (∀ j, j < ops.size → h j ≤ w.heap.size ∧ B0 ≤ l j) → (∀ j k, j < ops.size → k < ops.size → j ≠ k → h j ≤ l k ∨ h k ≤ l j) → Q .normal (allPut u 0 ops.toList a0) w) :
  (Code.region id ops true).wp P Q a0 w0 := by
 simp only [Bool.and_eq_true] at hchk
 refine wp_region_any hm ?_
 have hnone : putsL (fun j => (Array.replicate ops.size false).getD j false) (fun _ => undef) 0 ops.toList a0 = a0 := by
  have : (fun j => (Array.replicate ops.size false).getD j false) = fun _ => false := by
   funext j
   by_cases h : j < ops.size <;> simp [h]
  rw [this, putsL_none]
 have hno : ∀ j, (Array.replicate ops.size false).getD j false = false := fun j => by
  by_cases h : j < ops.size <;> simp [h]
 have := wpAny_J (P := P) (Q := Q) hchk.1.1 hchk.1.2 hslots hchk.2 hGE hGB hok hend ops.size (Array.replicate ops.size false) (fun _ => undef) (fun _ => 0) (fun _ => 0) w0.drew
  (by simp) (by simp) (fun j o _ h => by rw [hno] at h; cases h) hG (fun j e _ h => by rw [hno] at h; cases h) (fun j e he _ => hpre e (List.mem_of_getElem? he)) (fun j h => by rw [hno] at h; cases h)
  (fun j k h => by rw [hno] at h; cases h)
 rw [hnone] at this
 exact this
end

/-! ### the world beside a region -/

/-- **the rule, with the world as it lay before, but for the blocks X** -/
theorem wp_region_K {P : Program} {ops : Array Oper} {Q : Exit → Act → World → Prop} {a0 : Act} {id : Nat} {w0 : World} (X : List Nat) (plan : List Ent) (ns : List (List Need)) (hm : P.follows .mixedOrders = true)
  (hchk : (backL 0 ops.toList && uniqL a0.tmps.size ops.toList && needsOk ops.toList 0 ops.toList ns) = true) (hslots : slotsL ops.toList ops.toList plan = true)
  (hpre : ∀ e ∈ plan, e.pre w0.drew)
  (hok : opsOk P ops Q (Keep X w0) w0.heap.size plan a0 0 ops.toList plan ns)
  (hend : ∀ u l h w, Keep X w0 w → allE u l h (allPut u 0 ops.toList a0) w 0 plan → (∀ j, j < ops.size → h j ≤ w.heap.size ∧ w0.heap.size ≤ l j) →
   (∀ j k, j < ops.size → k < ops.size → j ≠ k → h j ≤ l k ∨ h k ≤ l j) → Q .normal (allPut u 0 ops.toList a0) w) :
  (Code.region id ops true).wp P Q a0 w0 :=
 wp_region_J (G := Keep X w0) (B0 := w0.heap.size) hm hchk hslots hpre (Keep.drew (Keep.refl _ _)) (fun _ _ e h => Keep.ext e h) (fun _ h => h.size) hok hend

/-! ### one operation -/
section
variable {P : Program} {ops : Array Oper} {Q : Exit → Act → World → Prop} {G : World → Prop} {B0 : Nat} {plan : List Ent} {a0 : Act} {i : Nat} {o : Oper} {ns : List Need}

/-- it yields a value and leaves the world alone -/
theorem OpOk.quiet {x : Value} (hg : o.guard = none) (h : ∀ a w, G w → facts plan a0 a w ns → (execOp a.eval o).run P w = .ok (.value x) w) :
  OpOk P ops Q G B0 plan a0 i o (.val x) ns := by
 intro a w hG hf
 refine ⟨fun _ => ?_, fun h => by simp [Region.wanted, hg] at h⟩
 unfold Oper.wp
 rw [h a w hG hf]
 exact ⟨x, rfl, rfl, .inl (Ext.refl w)⟩

/-- it yields a value and adds to the world -/
theorem OpOk.adds {e : Ent} (hg : o.guard = none) (h : ∀ a w, G w → facts plan a0 a w ns → ∃ v w', (execOp a.eval o).run P w = .ok (.value v) w' ∧ Ext w w' ∧ e.E v w.heap.size w'.heap.size a w') :
  OpOk P ops Q G B0 plan a0 i o e ns := by
 intro a w hG hf
 refine ⟨fun _ => ?_, fun h => by simp [Region.wanted, hg] at h⟩
 obtain ⟨v, w', h1, h2, h3⟩ := h a w hG hf
 unfold Oper.wp
 rw [h1]
 exact ⟨v, rfl, h3, .inl h2⟩

/-- a new block -/
theorem OpOk.made {T : TypeId} {k : Nat} {cs : Array Value} (hg : o.guard = none) (hk : cs.size = k)
  (h : ∀ a w, G w → facts plan a0 a w ns → (execOp a.eval o).run P w = .ok (.value (.pointer (some ⟨w.heap.size, 0, none⟩))) (w.alloc (.cells cs T))) :
  OpOk P ops Q G B0 plan a0 i o (.made T k) ns :=
 OpOk.adds hg fun a w hG hf => ⟨_, _, h a w hG hf, Ext.alloc _ _, w.heap.size, cs, rfl, Nat.le_refl _, by simp, alloc_get _ _, hk⟩

/-- a call that only adds -/
theorem OpOk.call {e : Ent} (hg : o.guard = none) (h : ∀ a w, G w → facts plan a0 a w ns → ∃ f args, (execOp a.eval o).run P w = .ok (.enter f args) w ∧
  Calls P f args w fun x w' => ∃ v, x = .returned v ∧ Ext w w' ∧ e.E v w.heap.size w'.heap.size a w') :
  OpOk P ops Q G B0 plan a0 i o e ns := by
 intro a w hG hf
 refine ⟨fun _ => ?_, fun h => by simp [Region.wanted, hg] at h⟩
 obtain ⟨f, args, h1, h2⟩ := h a w hG hf
 unfold Oper.wp
 rw [h1, Oper.upon_enter]
 refine h2.mono fun x w' hx => ?_
 obtain ⟨v, rfl, hv, he⟩ := hx
 exact ⟨v, rfl, he, .inl hv⟩
end
/-! ### a region that appends twice and stores -/
def Ent.fnS (t : Nat) (F : Value → Value) : Ent where
 E := fun v _ _ a _ => v = F (a.eval (.tmp t))
 sl := [t]
 old := []
 still := false
 news := false
 hsl := fun _ _ _ _ _ _ h h1 => by rw [← h t (by simp)]; exact h1
 hext := fun _ _ _ _ _ _ _ _ h => h
 hstill := fun h => Bool.noConfusion h
 hnews := fun h => Bool.noConfusion h
 hpext := fun _ _ _ h => h
/-- a new slice of n elements, the cells xs ahead of its row -/
def Ent.own (T : TypeId) (size n : Nat) (xs : List Value) : Ent :=
 .rel (fun v l h w => ∃ g cap cur, v = .slice (some ⟨g, 0, none⟩) n cap ∧ l ≤ g ∧ g < h ∧ w.heap[g]? = some (.cells cur T (0, 0)) ∧ n ≤ cap ∧ cap ≤ maxLen ∧ cur.size = cap * size ∧ cur.toList.take (n * size) = xs)
  (fun _ _ _ _ _ hk ⟨g, cap, cur, h1, h2, h3, h4, h5⟩ => ⟨g, cap, cur, h1, h2, h3, (hk g h2 h3).trans h4, h5⟩)
/-- a slice, in whatever row -/
def Ent.row (base : Nat) (T : TypeId) (size n : Nat) (xs : List Value) : Ent where
 E := fun v _ _ _ w => w.ownsRow base T size v n xs ∧ v.ownBlock ≠ none
 sl := []
 old := []
 still := false
 news := false
 hsl := fun _ _ _ _ _ _ _ h => h
 hext := fun _ _ _ _ _ _ _ e ⟨h, h2⟩ => ⟨h.kept (JR.Ext.grown e none) (.inr h2), h2⟩
 hstill := fun h => Bool.noConfusion h
 hnews := fun h => Bool.noConfusion h
 hpext := fun _ _ _ h => h
/-- a slice of one new block of these cells -/
def Ent.slc (T : TypeId) (cs : Array Value) : Ent :=
 .rel (fun v l h u => ∃ b, v = .slice (some ⟨b, 0, none⟩) 1 1 ∧ l ≤ b ∧ b < h ∧ u.heap[b]? = some (.cells cs T (0, 0)))
  (fun _ _ _ _ _ hk ⟨b, h1, h2, h3, h4⟩ => ⟨b, h1, h2, h3, (hk b h2 h3).trans h4⟩)
/-- the block behind slot t holds what F makes of slot s -/
def Ent.filledS (t s : Nat) (F : Value → Array Value) (T : TypeId) : Ent where
 E := fun _ _ _ a w => ∃ b, a.eval (.tmp t) = .pointer (some ⟨b, 0, none⟩) ∧ w.heap[b]? = some (.cells (F (a.eval (.tmp s))) T (0, 0))
 sl := [t, s]
 old := []
 still := false
 news := false
 hsl := fun _ _ _ _ _ _ h ⟨b, h1, h2⟩ => ⟨b, by rw [← h t (by simp)]; exact h1, by rw [← h s (by simp)]; exact h2⟩
 hext := fun _ _ _ _ _ _ _ e ⟨b, h1, h2⟩ => ⟨b, h1, (e.block b (lt_of_some h2)).trans h2⟩
 hstill := fun h => Bool.noConfusion h
 hnews := fun h => Bool.noConfusion h
 hpext := fun _ _ _ h => h
/-- what the others say bears a row of type T, of a block that they did not make, being written -/
def rowsT (B0 : Nat) (T : TypeId) (i k : Nat) : Nat → List Ent → Prop
 | _, [] => True
 | j, e :: es => ((j ≠ i → j ≠ k → ∀ v l h a w b cells old, w.heap[b]? = some (.cells old T (0, 0)) → B0 ≤ b → (b < l ∨ h ≤ b) → e.E v l h a w → e.E v l h a (w.setRow b cells)) ∧ ∀ w, e.pre w) ∧ rowsT B0 T i k (j + 1) es
theorem rowsT_get {B0 : Nat} {T : TypeId} {i k : Nat} : ∀ (l : List Ent) (m : Nat), rowsT B0 T i k m l → ∀ j e, l[j]? = some e → (m + j ≠ i → m + j ≠ k → ∀ v l h a w b cells old, w.heap[b]? = some (.cells old T (0, 0)) → B0 ≤ b → (b < l ∨ h ≤ b) → e.E v l h a w → e.E v l h a (w.setRow b cells)) ∧ ∀ w, e.pre w := by
 intro l
 induction l with
 | nil => intro m _ j e he; simp at he
 | cons x l ih =>
  intro m h j e he
  cases j with
  | zero => simp at he; subst he; exact h.1
  | succ j =>
   have := ih (m + 1) h.2 j e (by simpa using he)
   rw [show m + 1 + j = m + (j + 1) from by omega] at this
   exact this
theorem rowsT_pre {B0 : Nat} {T : TypeId} {i k : Nat} {l : List Ent} {w : World} (h : rowsT B0 T i k 0 l) : ∀ e ∈ l, e.pre w := fun e he => by
 obtain ⟨j, hj⟩ := List.mem_iff_getElem?.1 he
 exact (rowsT_get l 0 h j e hj).2 w
section
variable {B0 i k j : Nat} {T T' : TypeId}
theorem rt_val (x : Value) : (j ≠ i → j ≠ k → ∀ v l h a w b cells old, w.heap[b]? = some (.cells old T (0, 0)) → B0 ≤ b → (b < l ∨ h ≤ b) → (Ent.val x).E v l h a w → (Ent.val x).E v l h a (w.setRow b cells)) ∧ ∀ w, (Ent.val x).pre w := ⟨fun _ _ _ _ _ _ _ _ _ _ _ _ _ h => h, fun _ => trivial⟩
theorem rt_of (R : Value → Prop) : (j ≠ i → j ≠ k → ∀ v l h a w b cells old, w.heap[b]? = some (.cells old T (0, 0)) → B0 ≤ b → (b < l ∨ h ≤ b) → (Ent.of R).E v l h a w → (Ent.of R).E v l h a (w.setRow b cells)) ∧ ∀ w, (Ent.of R).pre w := ⟨fun _ _ _ _ _ _ _ _ _ _ _ _ _ h => h, fun _ => trivial⟩
theorem rt_fnS (t : Nat) (F : Value → Value) : (j ≠ i → j ≠ k → ∀ v l h a w b cells old, w.heap[b]? = some (.cells old T (0, 0)) → B0 ≤ b → (b < l ∨ h ≤ b) → (Ent.fnS t F).E v l h a w → (Ent.fnS t F).E v l h a (w.setRow b cells)) ∧ ∀ w, (Ent.fnS t F).pre w := ⟨fun _ _ _ _ _ _ _ _ _ _ _ _ _ h => h, fun _ => trivial⟩
theorem rt_own (U : TypeId) (size n : Nat) (xs : List Value) : (j ≠ i → j ≠ k → ∀ v l h a w b cells old, w.heap[b]? = some (.cells old T (0, 0)) → B0 ≤ b → (b < l ∨ h ≤ b) → (Ent.own U size n xs).E v l h a w → (Ent.own U size n xs).E v l h a (w.setRow b cells)) ∧ ∀ w, (Ent.own U size n xs).pre w :=
 ⟨fun _ _ v l h a w b cells old _ _ hb ⟨g, cap, cur, h1, h2, h3, h4, h5⟩ => ⟨g, cap, cur, h1, h2, h3, (JR.setRow_other (by omega)).trans h4, h5⟩, fun _ => trivial⟩
theorem rt_slc (U : TypeId) (cs : Array Value) : (j ≠ i → j ≠ k → ∀ v l h a w b cells old, w.heap[b]? = some (.cells old T (0, 0)) → B0 ≤ b → (b < l ∨ h ≤ b) → (Ent.slc U cs).E v l h a w → (Ent.slc U cs).E v l h a (w.setRow b cells)) ∧ ∀ w, (Ent.slc U cs).pre w :=
 ⟨fun _ _ v l h a w b cells old _ _ hb ⟨g, h1, h2, h3, h4⟩ => ⟨g, h1, h2, h3, (JR.setRow_other (by omega)).trans h4⟩, fun _ => trivial⟩
theorem rt_made (U : TypeId) (n : Nat) : (j ≠ i → j ≠ k → ∀ v l h a w b cells old, w.heap[b]? = some (.cells old T (0, 0)) → B0 ≤ b → (b < l ∨ h ≤ b) → (Ent.made U n).E v l h a w → (Ent.made U n).E v l h a (w.setRow b cells)) ∧ ∀ w, (Ent.made U n).pre w :=
 ⟨fun _ _ v l h a w b cells old _ _ hb ⟨g, cs, h1, h2, h3, h4, h5⟩ => ⟨g, cs, h1, h2, h3, (JR.setRow_other (by omega)).trans h4, h5⟩, fun _ => trivial⟩
theorem rt_row (base : Nat) (size n : Nat) (xs : List Value) (hT : T' ≠ T) : (j ≠ i → j ≠ k → ∀ v l h a w b cells old, w.heap[b]? = some (.cells old T (0, 0)) → B0 ≤ b → (b < l ∨ h ≤ b) → (Ent.row base T' size n xs).E v l h a w → (Ent.row base T' size n xs).E v l h a (w.setRow b cells)) ∧ ∀ w, (Ent.row base T' size n xs).pre w :=
 ⟨fun _ _ v l h a w b cells old hb _ _ ⟨⟨h1, h2⟩, h3⟩ => by
  refine ⟨⟨h1, ?_⟩, h3⟩
  rcases h2 with h2 | ⟨g, cap, cur, e, q1, q2, q3⟩
  ·exact .inl h2
  ·refine .inr ⟨g, cap, cur, e, q1, (JR.setRow_other fun he => ?_).trans q2, q3⟩
   subst he
   rw [hb] at q2
   simp at q2
   exact hT q2.2.symm, fun _ => trivial⟩
theorem rt_filledS (t s : Nat) (F : Value → Array Value) (hT : T' ≠ T) : (j ≠ i → j ≠ k → ∀ v l h a w b cells old, w.heap[b]? = some (.cells old T (0, 0)) → B0 ≤ b → (b < l ∨ h ≤ b) → (Ent.filledS t s F T').E v l h a w → (Ent.filledS t s F T').E v l h a (w.setRow b cells)) ∧ ∀ w, (Ent.filledS t s F T').pre w :=
 ⟨fun _ _ v l h a w b cells old hb _ _ ⟨g, h1, h2⟩ => ⟨g, h1, (JR.setRow_other fun he => by
  subst he
  rw [hb] at h2
  simp at h2
  exact hT h2.2.symm).trans h2⟩, fun _ => trivial⟩
theorem rt_self {e : Ent} (h : j = i ∨ j = k) (hp : ∀ w, e.pre w) : (j ≠ i → j ≠ k → ∀ v l h a w b cells old, w.heap[b]? = some (.cells old T (0, 0)) → B0 ≤ b → (b < l ∨ h ≤ b) → e.E v l h a w → e.E v l h a (w.setRow b cells)) ∧ ∀ w, e.pre w := ⟨fun h1 h2 => h.elim (absurd · h1) (absurd · h2), hp⟩
end
theorem run_append_grow0 {P : Program} (w : World) (t ty e : TypeId) (i : TypeInfo) (z : Value) (size bytes : Nat) (ht : P.underlying t = some (.slice e)) (hi : P.info? e = some i) (hz : i.zero = some z)
  (hsize : i.size = size) (hby : i.bytes = bytes) (hzs : z.cells.size = size) (hsz : 0 < size) (b : Addr) (a : Addr) (m c : Nat) (news : List Value) (hl : news.length = m * size) (hnews : ∀ j u, news[j]? = some u → w.cell? (a.add j) = some u)
  (hm : 0 < m) (h63 : m ≤ maxLen) (hbytes : m * bytes ≤ 140737488355328) :
  ∃ v' w', (Builtin.append_ #[t, t] ty #[.slice (some b) 0 0, .slice (some a) m c]).run P w = .ok v' w' ∧ Ext w w' ∧
   ∃ g cap cur, v' = .slice (some ⟨g, 0, none⟩) m cap ∧ w.heap.size ≤ g ∧ g < w'.heap.size ∧ w'.heap[g]? = some (.cells cur e (0, 0)) ∧ m ≤ cap ∧ cap ≤ maxLen ∧ cur.size = cap * size ∧ cur.toList.take (m * size) = news := by
 obtain ⟨v', w', h1, h2, h3⟩ := run_append_arg_grows (P := P) w t ty e i z size bytes ht hi hz hsize hby hzs hsz b 0 0 [] (by simp) (fun j u h => by simp at h) a m c news hl hnews (by omega) (by omega) (by simpa using hbytes)
 obtain ⟨p1, p2, p3, p4, p5⟩ := h3
 refine ⟨v', w', h1, ⟨p1, p2, p3, p4, fun k hk => p5 k hk (by simp)⟩, ?_⟩
 rcases h2.2 with ⟨-, h⟩ | ⟨g, cap, cur, rfl, q1, q2, q3, q4, q5, q6⟩
 ·omega
 ·exact ⟨g, cap, cur, by simp, q1, lt_of_some q2, q2, by simpa using q3, q4, q5, by simpa using q6⟩
/-- one element appended to a row that is known -/
theorem append_row {P : Program} (w : World) (t ty e : TypeId) (i : TypeInfo) (z : Value) (size bytes : Nat) (ht : P.underlying t = some (.slice e)) (hi : P.info? e = some i) (hz : i.zero = some z)
  (hsize : i.size = size) (hby : i.bytes = bytes) (hzs : z.cells.size = size) (hsz : 0 < size)
  (g n cap : Nat) (cur : Array Value) (xs : List Value) (hxs : xs.length = n * size) (hg : w.heap[g]? = some (.cells cur e (0, 0))) (hnc : n ≤ cap) (hcm : cap ≤ maxLen) (hcs : cur.size = cap * size) (htk : cur.toList.take (n * size) = xs)
  (a : Addr) (c : Nat) (news : List Value) (hl : news.length = 1 * size) (hnews : ∀ j u, news[j]? = some u → w.cell? (a.add j) = some u) (h1 : ∀ u ∈ news, u.oneCell' = true)
  (h63 : n + 1 ≤ maxLen) (hbytes : (n + 1) * bytes ≤ 140737488355328) (base : Nat) (hbg : base ≤ g) :
  ∃ v' w', (Builtin.append_ #[t, t] ty #[.slice (some ⟨g, 0, none⟩) n cap, .slice (some a) 1 c]).run P w = .ok v' w' ∧ w'.ownsRow base e size v' (n + 1) (xs ++ news) ∧ v'.ownBlock ≠ none ∧
   (Ext w w' ∨ ∃ cells : Array Value, w' = w.setRow g cells ∧ cells.size = cap * size ∧ cells.toList.take (n * size) = xs) := by
 have hown : w.ownsRow base e size (.slice (some ⟨g, 0, none⟩) n cap) n xs := ⟨hxs, .inr ⟨g, cap, cur, rfl, hbg, hg, hnc, hcm, hcs, htk⟩⟩
 obtain ⟨v', w', hr, hown', hcase⟩ := JR.append_cases (P := P) w base t ty e i z size bytes ht hi hz hsize hby hzs hsz _ n xs hown a c news hl hnews h1 h63 hbytes (Nat.le_trans hbg (Nat.le_of_lt (lt_of_some hg)))
 have hob : v'.ownBlock ≠ none := by
  rcases hcase with ⟨-, b, e1, -⟩ | ⟨g', cells, -, e2, -⟩
  ·rw [e1]; simp
  ·rw [e2]; simp
 refine ⟨v', w', hr, hown', hob, ?_⟩
 rcases hcase with ⟨hext, -⟩ | ⟨g', cells, e1, e2, rfl⟩
 ·exact .inl hext
 ·have hgg : g' = g := by simpa [Value.ownBlock] using e1.symm
  subst hgg
  have hcells : (w.setRow g' cells).heap[g']? = some (.cells cells e (0, 0)) := JR.setRow_same hg
  refine .inr ⟨cells, rfl, ?_, ?_⟩
  ·by_cases hroom : n + 1 ≤ cap
   ·have hl' : news.length = 1 * i.size := by rw [hsize]; exact hl
    have h := run_append_room (P := P) w t ty e i ht hi g' n cap cur hg a 1 c news hl' hnews h1 hroom (by rw [hl', hcs, hsize, ← Nat.add_mul]; exact Nat.mul_le_mul_right _ hroom)
    rw [hr] at h
    rcases hown'.2 with ⟨-, h0⟩ | ⟨g2, cap2, cur2, e3, -, q2, -, -, q5, -⟩
    ·omega
    ·injection h with h8 h9
     rw [e3] at h8
     simp at h8
     obtain ⟨rfl, rfl⟩ := h8
     rw [hcells] at q2
     simp at q2
     subst q2
     exact q5
   ·exfalso
    have hb' : (n + 1) * i.bytes ≤ 140737488355328 := by rw [hby]; exact hbytes
    have h := run_append_grow (P := P) w t ty e i z ht hi hz ⟨g', 0, none⟩ n cap xs (by rw [hsize]; exact hxs) (hown.cells (g := g') rfl) a 1 c news (by rw [hsize]; exact hl) hnews (by omega) (by simp only [maxLen] at h63; omega) (growslice_fits (by omega) hb')
    rw [hr] at h
    injection h with h8 h9
    rw [h8] at e2
    simp [Value.ownBlock] at e2
    have := lt_of_some hg
    omega
  ·rcases hown'.2 with ⟨-, h0⟩ | ⟨g2, cap2, cur2, e3, -, q2, -, -, -, q6⟩
   ·omega
   ·have hg2 : g2 = g' := by rw [e3] at e2; simpa [Value.ownBlock] using e2
    subst hg2
    rw [hcells] at q2
    simp at q2
    subst q2
    have hle : n * size ≤ (n + 1) * size := Nat.mul_le_mul_right _ (by omega)
    have : (cells.toList.take ((n + 1) * size)).take (n * size) = (xs ++ news).take (n * size) := by rw [q6]
    rw [List.take_take, Nat.min_eq_left hle] at this
    rw [this, ← hxs, List.take_left]
section
variable {P : Program} {ops : Array Oper} {Q : Exit → Act → World → Prop} {G : World → Prop} {B0 : Nat} {plan : List Ent} {a0 : Act} {i : Nat} {o : Oper} {ns : List Need}
theorem OpOk.fnS {t : Nat} {F : Value → Value} (hg : o.guard = none) (h : ∀ a w, G w → facts plan a0 a w ns → (execOp a.eval o).run P w = .ok (.value (F (a.eval (.tmp t)))) w) :
  OpOk P ops Q G B0 plan a0 i o (.fnS t F) ns :=
 OpOk.adds hg fun a w hG hf => ⟨_, _, h a w hG hf, Ext.refl _, rfl⟩
theorem OpOk.slc {T : TypeId} {cs : Array Value} (hg : o.guard = none) (h : ∀ a w, G w → facts plan a0 a w ns → (execOp a.eval o).run P w = .ok (.value (.slice (some ⟨w.heap.size, 0, none⟩) 1 1)) (w.alloc (.cells cs T))) :
  OpOk P ops Q G B0 plan a0 i o (.slc T cs) ns :=
 OpOk.adds hg fun a w hG hf => ⟨_, _, h a w hG hf, JR.Ext.alloc _ _, w.heap.size, rfl, Nat.le_refl _, by simp, alloc_get _ _⟩
/-- append onto an empty slice without capacity -/
theorem OpOk.grows {s x : Operand} {t e : TypeId} {inf : TypeInfo} {z : Value} {size bytes m : Nat} {xs : List Value} (hg : o.guard = none)
  (ho : o.op = .call { callee := .builtin .append, args := #[s, x], argTypes := #[t, t] })
  (ht : P.underlying t = some (.slice e)) (hi : P.info? e = some inf) (hz : inf.zero = some z)
  (hsize : inf.size = size) (hby : inf.bytes = bytes) (hzs : z.cells.size = size) (hsz : 0 < size) (hl : xs.length = m * size) (hm : 0 < m) (h63 : m ≤ maxLen) (hbytes : m * bytes ≤ 140737488355328)
  (hf : ∀ a w, G w → facts plan a0 a w ns → ∃ b ad c, a.eval s = .slice (some b) 0 0 ∧ a.eval x = .slice (some ad) m c ∧ ∀ j u, xs[j]? = some u → w.cell? (ad.add j) = some u) :
  OpOk P ops Q G B0 plan a0 i o (.own e size m xs) ns := by
 intro a w hG hff
 refine ⟨fun _ => ?_, fun h => by simp [Region.wanted, hg] at h⟩
 obtain ⟨b, ad, c, hs, hx, hc⟩ := hf a w hG hff
 obtain ⟨v', w', hr, hext, hE⟩ := run_append_grow0 (P := P) w t o.type e inf z size bytes ht hi hz hsize hby hzs hsz b ad m c xs hl hc hm h63 hbytes
 unfold Oper.wp execOp
 simp only [ho, resolve, invoke, builtin, Sem.run_bind, Sem.run_pure, Result.andThen_ok, List.map_toArray, List.map_cons, List.map_nil, hs, hx, hr]
 exact ⟨v', rfl, hE, .inl hext⟩
/-- one element appended to the slice that operation k made -/
theorem OpOk.into {s x : Operand} {t e : TypeId} {inf : TypeInfo} {z : Value} {size bytes n k tk : Nat} {xs news : List Value} (hg : o.guard = none)
  (ho : o.op = .call { callee := .builtin .append, args := #[s, x], argTypes := #[t, t] })
  (ht : P.underlying t = some (.slice e)) (hi : P.info? e = some inf) (hz : inf.zero = some z)
  (hsize : inf.size = size) (hby : inf.bytes = bytes) (hzs : z.cells.size = size) (hsz : 0 < size) (hxs : xs.length = n * size) (hl : news.length = 1 * size) (h1 : ∀ u ∈ news, u.oneCell' = true)
  (h63 : n + 1 ≤ maxLen) (hbytes : (n + 1) * bytes ≤ 140737488355328)
  (hk : (dep o).contains k = true) (hdst : (ops.toList[k]?).bind (·.dst) = some tk) (hmade : plan.getD k .any = .own e size n xs) (hrows : rowsT B0 e i k 0 plan)
  (hs : ∀ a : Act, a.eval s = a.eval (.tmp tk))
  (hf : ∀ a w, G w → facts plan a0 a w ns → (∃ l h, (plan.getD k .any).E (a.eval (.tmp tk)) l h a w) ∧ ∃ ad c, a.eval x = .slice (some ad) 1 c ∧ ∀ j u, news[j]? = some u → w.cell? (ad.add j) = some u)
  (hGs : ∀ w b cs, G w → B0 ≤ b → G (w.setRow b cs)) :
  OpOk P ops Q G B0 plan a0 i o (.row 0 e size (n + 1) (xs ++ news)) ns := by
 have hk' : k ∈ dep o := by simpa using hk
 intro a w hG hff
 refine ⟨fun _ => ?_, fun h => by simp [Region.wanted, hg] at h⟩
 obtain ⟨⟨l0, h0, hm⟩, ad, c, hx, hc⟩ := hf a w hG hff
 rw [hmade] at hm
 obtain ⟨g, cap, cur, e1, e2, e3, e4, e5, e6, e7, e8⟩ := hm
 obtain ⟨v', w', hr, hown, hob, hcase⟩ := append_row (P := P) w t o.type e inf z size bytes ht hi hz hsize hby hzs hsz g n cap cur xs hxs e4 e5 e6 e7 e8 ad c news hl hc h1 h63 hbytes 0 (Nat.zero_le _)
 unfold Oper.wp execOp
 simp only [ho, resolve, invoke, builtin, Sem.run_bind, Sem.run_pure, Result.andThen_ok, List.map_toArray, List.map_cons, List.map_nil, hs, e1, hx, hr]
 refine ⟨v', rfl, ⟨hown, hob⟩, ?_⟩
 rcases hcase with hext | ⟨cells, rfl, hcz, hct⟩
 ·exact .inl hext
 ·refine .inr fun l h hknow hapart => ?_
  obtain ⟨kE, kh, kl⟩ := hknow k hk' tk hdst
  rw [hmade] at kE
  obtain ⟨g', cap', cur', f1, f2, f3, f4, f5⟩ := kE
  have hgg : g' = g ∧ cap' = cap := by rw [e1] at f1; simp at f1; exact ⟨f1.1.symm, f1.2.symm⟩
  obtain ⟨rfl, rfl⟩ := hgg
  refine ⟨by rw [JR.setRow_size]; exact Nat.le_refl _, hGs _ _ _ hG (by omega), fun j en he _ _ => (rowsT_get plan 0 hrows j en he).2 _, fun j en he hji _ v lj hj hlj hhj hks hE => ?_⟩
  by_cases hjk : j = k
  ·subst hjk
   have : en = .own e size n xs := by
    rw [← hmade, List.getD_eq_getElem?_getD, he]; rfl
   subst this
   obtain ⟨g2, cap2, cur2, q1, q2, q3, q4, q5, q6, q7, q8⟩ := hE
   by_cases hb2 : g2 = g'
   ·subst hb2
    by_cases hcc : cap2 = cap'
    ·subst hcc
     exact ⟨g2, cap2, cells, q1, q2, q3, JR.setRow_same q4, q5, q6, hcz, hct⟩
    ·exfalso
     rw [e4] at q4
     simp at q4
     subst q4
     rw [e7] at q7
     exact hcc (Nat.eq_of_mul_eq_mul_right hsz q7).symm
   ·exact ⟨g2, cap2, cur2, q1, q2, q3, (JR.setRow_other hb2).trans q4, q5, q6, q7, q8⟩
  ·exact (rowsT_get plan 0 hrows j en he).1 (by simpa using hji) (by simpa using hjk) _ _ _ _ _ _ _ _ e4 (by omega) (by rcases (hks k hk').1 (Ne.symm hjk) with h3 | h3 <;> omega) hE
/-- what F makes of slot s's value stored into a block that operation k made -/
theorem OpOk.fillT {t k n s : Nat} {T : TypeId} {F : Value → Array Value} (hg : o.guard = none)
  (hk : (dep o).contains k = true) (hdst : (ops.toList[k]?).bind (·.dst) = some t)
  (hmade : plan.getD k .any = .made T n) (hrows : rowsT B0 T i k 0 plan)
  (hf0 : ∀ a w, facts plan a0 a w ns → ∃ l h, (plan.getD k .any).E (a.eval (.tmp t)) l h a w)
  (hrun : ∀ a w b old, G w → facts plan a0 a w ns → a.eval (.tmp t) = .pointer (some ⟨b, 0, none⟩) → w.heap[b]? = some (.cells old T (0, 0)) → old.size = n →
   (execOp a.eval o).run P w = .ok .skip (w.setRow b (F (a.eval (.tmp s)))) ∧ (F (a.eval (.tmp s))).size = n)
  (hGs : ∀ w b cs, G w → B0 ≤ b → G (w.setRow b cs)) :
  OpOk P ops Q G B0 plan a0 i o (.filledS t s F T) ns := by
 have hk' : k ∈ dep o := by simpa using hk
 intro a w hG hf
 refine ⟨fun _ => ?_, fun h => by simp [Region.wanted, hg] at h⟩
 obtain ⟨l0, h0, hm⟩ := hf0 a w hf
 rw [hmade] at hm
 obtain ⟨b, old, e1, e2, e3, e4, e5⟩ := hm
 obtain ⟨hr, hcs⟩ := hrun a w b old hG hf e1 e4 e5
 unfold Oper.wp
 rw [hr]
 refine ⟨undef, rfl, ⟨b, e1, JR.setRow_same e4⟩, .inr fun l h hknow hapart => ?_⟩
 obtain ⟨kE, kh, kl⟩ := hknow k hk' t hdst
 rw [hmade] at kE
 obtain ⟨b', old', f1, f2, f3, f4, f5⟩ := kE
 have hbb : b' = b := by
  rw [e1] at f1
  simpa using f1.symm
 subst hbb
 refine ⟨by rw [JR.setRow_size]; exact Nat.le_refl _, hGs _ _ _ hG (by omega), fun j en he _ _ => (rowsT_get plan 0 hrows j en he).2 _, fun j e he hji _ v lj hj hlj hhj hks hE => ?_⟩
 by_cases hjk : j = k
 ·subst hjk
  have : e = .made T n := by
   rw [← hmade, List.getD_eq_getElem?_getD, he]; rfl
  subst this
  obtain ⟨b2, cs2, g1, g2, g3, g4, g5⟩ := hE
  by_cases hb2 : b2 = b'
  ·subst hb2
   exact ⟨b2, _, g1, g2, g3, JR.setRow_same e4, hcs⟩
  ·exact ⟨b2, cs2, g1, g2, g3, (JR.setRow_other hb2).trans g4, g5⟩
 ·exact (rowsT_get plan 0 hrows j e he).1 (by simpa using hji) (by simpa using hjk) _ _ _ _ _ _ _ _ e4 (by omega) (by rcases (hks k hk').1 (Ne.symm hjk) with h3 | h3 <;> omega) hE
end
end JQ
set_option linter.unusedSimpArgs false
set_option linter.unusedVariables false
/-! laws.isVary, exactly (printed by gen/iz.py). -/
namespace PF
open Go Go.RowKit JR
def IsvX (K : Int) (l : List (Int × Int)) (H : List (List (Int × Int))) (w : World) (e : Ending) (w' : World) : Prop :=
 ∃ b : Bool, e = .returned (.bool b) ∧ (b = true ↔ VaryS K l H) ∧ Below w.heap.size w w'
theorem IsvX.no {K : Int} {l : List (Int × Int)} {H : List (List (Int × Int))} {w w' : World} {e : Ending} (h : e = .returned (.bool false)) (hV : ¬ VaryS K l H) (hB : Below w.heap.size w w') : IsvX K l H w e w' := ⟨false, h, ⟨fun h => (nomatch h), fun h => absurd h hV⟩, hB⟩
theorem IsvX.yes {K : Int} {l : List (Int × Int)} {H : List (List (Int × Int))} {w w' : World} {e : Ending} (h : e = .returned (.bool true)) (hV : VaryS K l H) (hB : Below w.heap.size w w') : IsvX K l H w e w' := ⟨true, h, ⟨fun _ => hV, fun _ => rfl⟩, hB⟩
end PF
namespace Go.Proofs.YtbfanhdofopnnaaGreat
open Go.RowKit PF JR
set_option maxHeartbeats 2000000 in
set_option maxRecDepth 100000 in
theorem isVaryX_c (K : Int) (l : List (Int × Int)) (H : List (List (Int × Int))) (hl0 : l.length ≤ 2147483647) (hl : ∀ h ∈ H, h.length ≤ 2147483647) (v vh : Value) (w : World) (hv : SlP w v l) (hh : SlH w vh H) :
  Calls Tryz.prog 13 #[.agg #[.int .i64 K, v, vh]] w (IsvX K l H w) := by
 have hv0 := hv
 obtain ⟨A, c, rfl, hkl⟩ := hv
 obtain ⟨A', c', rfl, hkh⟩ := hh
 have st0 := (Blk.nil w).push rfl #[.int .i64 K, .slice A l.length c, .slice A' H.length c'] 27
 have s0 := hv0.below st0.hb
 go_enter Tryz.func13, Tryz.ntmps13
 go_wp2_with (first | (go_at_call 19; refine Stop1.out ?_) | (go_at_call 29; refine Stop1.out ?_))
 refine ⟨?_⟩
 refine (varyOf_c l hl0 _ _ s0).mono ?_
 rintro e w1 ⟨v1, rfl, sv1, hb⟩
 have st1 := st0.ext hb
 clear hb
 go_wp2_with (first | (go_at_call 19; refine Stop1.out ?_) | (go_at_call 29; refine Stop1.out ?_))
 refine ⟨?_⟩
 refine (isVaryP_c l hl0 _ _ sv1).mono ?_
 rintro e w2 ⟨rfl, hb⟩
 have st2 := st1.ext hb
 clear hb st0 st1 sv1 s0 hv0
 have hB := st2.hb
 have c0 := st2.cell 0 rfl 0
 have c1 := st2.cell 0 rfl 1
 have c2 := st2.cell 0 rfl 2
 simp only [List.getElem?_toArray, List.getElem?_cons_zero, List.getElem?_cons_succ] at c0 c1 c2
 cases hok : l.all okP
 case false =>
  go_wp2
  go_ret
  exact IsvX.no rfl (fun hV => by have h := hV.1; rw [hok] at h; cases h) hB
 by_cases hH3 : H.length ≤ 3
 case neg =>
  have d1 : (3 : Int) < (H.length : Int) := by omega
  have d2 := decide_eq_true d1
  go_wp2
  go_ret
  exact IsvX.no rfl (fun hV => hH3 hV.2.1) hB
 have d1 : ¬ (3 : Int) < (H.length : Int) := by omega
 have d2 := decide_eq_false d1
 by_cases hK : K = 3
 case neg =>
  have e1 : (K != 3) = true := by simp [hK]
  by_cases hH0 : H = []
  case neg =>
   have hlen : 0 < H.length := List.length_pos_iff.2 hH0
   have d3 : (0 : Int) < (H.length : Int) := by omega
   have d4 := decide_eq_true d3
   go_wp2
   go_ret
   exact IsvX.no rfl (fun hV => hH0 (hV.2.2.1 hK)) hB
  subst hH0
  clear hkh hl d1 d2 hH3
  go_wp2
  refine wp_loop_rounds 1 ?_
  rw [rounds_succ]
  by_cases k0 : K = 0
  case pos =>
   subst k0
   by_cases n1 : l.length = 1
   ·have d3 : ((l.length : Nat) : Int) = 1 := by omega
    have d4 : (((l.length : Nat) : Int) == 1) = true := by simp [d3]
    go_wp2
    go_ret
    exact IsvX.yes rfl ⟨hok, by simp, fun _ => rfl, by simp, .inl ⟨rfl, n1⟩⟩ hB
   ·have d4 : (((l.length : Nat) : Int) == 1) = false := beq_eq_false_iff_ne.2 (by omega)
    go_wp2
    go_ret
    exact IsvX.no rfl (fun hV => by rcases hV.2.2.2.2 with ⟨g, g'⟩ | ⟨g, a, b', c', d', e, g1, g2⟩ | ⟨g, g1, g2⟩ | ⟨g, g1, g2⟩ <;> first | omega | (simp at e; omega) | (rw [e] at n2; exact n2 rfl)) hB
  have q0 : (K == 0) = false := beq_eq_false_iff_ne.2 k0
  by_cases k1 : K = 1
  case pos =>
   subst k1
   by_cases n2 : l.length = 2
   ·match l, n2 with
    | [(X0, Y0), (X1, Y1)], _ =>
     obtain ⟨b, off, rfl, h1, h2⟩ := hkl 0 _ rfl
     obtain ⟨b', off', hA, h3, h4⟩ := hkl 1 _ rfl
     cases hA
     have g1 := (hB.cell (World.block_lt_of_cell? w _ h1)).trans h1
     have g2 := (hB.cell (World.block_lt_of_cell? w _ h2)).trans h2
     have g3 := (hB.cell (World.block_lt_of_cell? w _ h3)).trans h3
     have g4 := (hB.cell (World.block_lt_of_cell? w _ h4)).trans h4
     simp only [Nat.zero_mul, Nat.one_mul, Nat.add_zero, List.length_cons, List.length_nil, Nat.zero_add, Nat.reduceAdd] at g1 g2 g3 g4 c1
     clear h1 h2 h3 h4 hkl
     by_cases p1 : X0 < X1
     ·by_cases p2 : Y0 < Y1
      ·have d5 := decide_eq_true p1
       have d6 := decide_eq_true p2
       go_wp2
       go_quiet (fail)
       go_wp2
       go_ret
       exact IsvX.yes rfl ⟨hok, by simp, fun _ => rfl, by simp, .inr (.inl ⟨rfl, X0, Y0, X1, Y1, rfl, p1, p2⟩)⟩ (below_drewN hB _)
      ·have d5 := decide_eq_true p1
       have d6 := decide_eq_false p2
       go_wp2
       go_quiet (fail)
       go_wp2
       go_ret
       exact IsvX.no rfl (fun hV => by rcases hV.2.2.2.2 with ⟨g, g'⟩ | ⟨g, a, b', c', d', e, g1, g2⟩ | ⟨g, g1, g2⟩ | ⟨g, g1, g2⟩ <;> first | omega | (simp at e; omega) | (rw [e] at n2; exact n2 rfl)) (below_drewN hB _)
     ·have d5 := decide_eq_false p1
      go_wp2
      go_quiet (fail)
      go_wp2
      go_ret
      exact IsvX.no rfl (fun hV => by rcases hV.2.2.2.2 with ⟨g, g'⟩ | ⟨g, a, b', c', d', e, g1, g2⟩ | ⟨g, g1, g2⟩ | ⟨g, g1, g2⟩ <;> first | omega | (simp at e; omega) | (rw [e] at n2; exact n2 rfl)) (below_drewN hB _)
   ·have d4 : (((l.length : Nat) : Int) == 2) = false := beq_eq_false_iff_ne.2 (by omega)
    clear hkl
    go_wp2
    go_quiet (fail)
    go_wp2
    go_ret
    exact IsvX.no rfl (fun hV => by rcases hV.2.2.2.2 with ⟨g, g'⟩ | ⟨g, a, b', c', d', e, g1, g2⟩ | ⟨g, g1, g2⟩ | ⟨g, g1, g2⟩ <;> first | omega | (simp at e; omega) | (rw [e] at n2; exact n2 rfl)) (below_drewN hB _)
  have q1 : (K == 1) = false := beq_eq_false_iff_ne.2 k1
  by_cases k2 : K = 2
  case pos =>
   subst k2
   by_cases n2 : 2 ≤ l.length
   ·have d3 := decide_eq_true (show (2 : Int) ≤ (l.length : Int) by omega)
    by_cases n3 : l.length ≤ 12
    ·have d4 := decide_eq_true (show (l.length : Int) ≤ 12 by omega)
     go_wp2
     go_ret
     exact IsvX.yes rfl ⟨hok, by simp, fun _ => rfl, by simp, .inr (.inr (.inl ⟨rfl, n2, n3⟩))⟩ hB
    ·have d4 := decide_eq_false (show ¬ (l.length : Int) ≤ 12 by omega)
     go_wp2
     go_ret
     exact IsvX.no rfl (fun hV => by rcases hV.2.2.2.2 with ⟨g, g'⟩ | ⟨g, a, b', c', d', e, g1, g2⟩ | ⟨g, g1, g2⟩ | ⟨g, g1, g2⟩ <;> first | omega | (simp at e; omega) | (rw [e] at n2; exact n2 rfl)) hB
   ·have d3 := decide_eq_false (show ¬ (2 : Int) ≤ (l.length : Int) by omega)
    go_wp2
    go_ret
    exact IsvX.no rfl (fun hV => by rcases hV.2.2.2.2 with ⟨g, g'⟩ | ⟨g, a, b', c', d', e, g1, g2⟩ | ⟨g, g1, g2⟩ | ⟨g, g1, g2⟩ <;> first | omega | (simp at e; omega) | (rw [e] at n2; exact n2 rfl)) hB
  have q2 : (K == 2) = false := beq_eq_false_iff_ne.2 k2
  have q3 : (K == 3) = false := beq_eq_false_iff_ne.2 hK
  go_wp2
  go_ret
  exact IsvX.no rfl (fun hV => by rcases hV.2.2.2.2 with ⟨g, g'⟩ | ⟨g, a, b', c', d', e, g1, g2⟩ | ⟨g, g1, g2⟩ | ⟨g, g1, g2⟩ <;> first | omega | (simp at e; omega) | (rw [e] at n2; exact n2 rfl)) hB
 subst hK
 go_wp2
 go_loopw [34] (fun i wr => ∃ k : Nat, k ≤ H.length ∧ i = .int .i64 k ∧ (∀ h ∈ H.take k, 3 ≤ h.length ∧ h.length ≤ 8 ∧ h.all okP = true) ∧ Blk w wr [(w.heap.size, #[.int .i64 3, .slice A l.length c, .slice A' H.length c'], 27)]) (fun i _ => H.length - (intOf i).toNat)
 case atStart => exact ⟨0, Nat.zero_le _, rfl, by simp, st2⟩
 case round =>
  obtain ⟨k, hkle, rfl, hall, hS⟩ := hrel
  clear c0 c1 c2 hB
  have c0 := hS.cell 0 rfl 0
  have c1 := hS.cell 0 rfl 1
  have c2 := hS.cell 0 rfl 2
  simp only [List.getElem?_toArray, List.getElem?_cons_zero, List.getElem?_cons_succ] at c0 c1 c2
  rcases Nat.lt_or_ge k H.length with hlt | hge
  ·obtain ⟨h, hh⟩ : ∃ h, H[k]? = some h := ⟨H[k], by simp [hlt]⟩
   obtain ⟨b, off, vx, rfl, h1, h2⟩ := hkh k h hh
   have s3 := h2.below hS.hb
   obtain ⟨A2, c3, rfl⟩ := h2.len
   have g1 := (hS.hb.cell (World.block_lt_of_cell? w _ h1)).trans h1
   have hlen := hl h (List.mem_of_getElem? hh)
   clear h1 h2 hkh hkl st2 d1 d2
   by_cases m1 : h.length < 3
   ·have d1 : (h.length : Int) < 3 := by omega
    have d2 := decide_eq_true d1
    go_wp2
    go_ret
    exact IsvX.no rfl (fun hV => by have := (hV.2.2.2.1 h (List.mem_of_getElem? hh)).1; omega) hS.hb
   have d1 : ¬ (h.length : Int) < 3 := by omega
   have d2 := decide_eq_false d1
   by_cases m2 : 8 < h.length
   ·have d3 : (8 : Int) < (h.length : Int) := by omega
    have d4 := decide_eq_true d3
    go_wp2
    go_ret
    exact IsvX.no rfl (fun hV => by have := (hV.2.2.2.1 h (List.mem_of_getElem? hh)).2.1; omega) hS.hb
   have d3 : ¬ (8 : Int) < (h.length : Int) := by omega
   have d4 := decide_eq_false d3
   go_wp2_with (first | (go_at_call 19; refine Stop1.out ?_) | (go_at_call 29; refine Stop1.out ?_))
   refine ⟨?_⟩
   refine (varyOf_c h hlen _ _ s3).mono ?_
   rintro e w3 ⟨v3, rfl, sv3, hb⟩
   have hS1 := hS.ext hb
   clear hb
   go_wp2_with (first | (go_at_call 19; refine Stop1.out ?_) | (go_at_call 29; refine Stop1.out ?_))
   refine ⟨?_⟩
   refine (isVaryP_c h hlen _ _ sv3).mono ?_
   rintro e w4 ⟨rfl, hb⟩
   have hS2 := hS1.ext hb
   clear hb hS1 sv3 hS c0 c1 c2 s3 g1
   cases hoh : h.all okP
   case false =>
    go_wp2
    go_ret
    exact IsvX.no rfl (fun hV => by have g := (hV.2.2.2.1 h (List.mem_of_getElem? hh)).2.2; rw [hoh] at g; cases g) hS2.hb
   go_wp2
   go_roundw
   case rel =>
    refine ⟨k + 1, by omega, by go_num, ?_, hS2⟩
    intro x hx
    rw [List.take_add_one, hh] at hx
    simp at hx
    rcases hx with hx | rfl
    ·exact hall x hx
    ·exact ⟨by omega, by omega, hoh⟩
   case measure => simp [intOf]; omega
  ·have hkk : k = H.length := by omega
   subst hkk
   rw [List.take_length] at hall
   clear hkh hkl d1 d2 st2
   by_cases n2 : 3 ≤ l.length
   ·have d3 := decide_eq_true (show (3 : Int) ≤ (l.length : Int) by omega)
    by_cases n3 : l.length ≤ 12
    ·have d4 := decide_eq_true (show (l.length : Int) ≤ 12 by omega)
     go_wp2
     go_ret
     exact IsvX.yes rfl ⟨hok, hH3, fun h => absurd rfl h, hall, .inr (.inr (.inr ⟨rfl, n2, n3⟩))⟩ hS.hb
    ·have d4 := decide_eq_false (show ¬ (l.length : Int) ≤ 12 by omega)
     go_wp2
     go_ret
     exact IsvX.no rfl (fun hV => by rcases hV.2.2.2.2 with ⟨g, g'⟩ | ⟨g, a, b', c', d', e, g1, g2⟩ | ⟨g, g1, g2⟩ | ⟨g, g1, g2⟩ <;> first | omega | (simp at e; omega) | (rw [e] at n2; exact n2 rfl)) hS.hb
   ·have d3 := decide_eq_false (show ¬ (3 : Int) ≤ (l.length : Int) by omega)
    go_wp2
    go_ret
    exact IsvX.no rfl (fun hV => by rcases hV.2.2.2.2 with ⟨g, g'⟩ | ⟨g, a, b', c', d', e, g1, g2⟩ | ⟨g, g1, g2⟩ | ⟨g, g1, g2⟩ <;> first | omega | (simp at e; omega) | (rw [e] at n2; exact n2 rfl)) hS.hb
end Go.Proofs.YtbfanhdofopnnaaGreat
set_option linter.unusedSimpArgs false
set_option linter.unusedVariables false
/-! impl.SeriesOf of a ring, over the exact index (printed by gen/sn.py). -/
namespace Go.Proofs.YtbfanhdofopnnaaGreat
open Go.RowKit PF JR
set_option maxRecDepth 100000 in
set_option maxHeartbeats 2000000 in
theorem series_c (K : Nat) (hK2 : K ≤ 2) (closed : Bool) (l : List (Int × Int)) (hl : l.length ≤ 12) (h2l : 2 ≤ l.length) (hbd : ∀ p ∈ l, Bnd p) (v : Value) (w : World) (hv : SlP w v l) :
  Calls Tryz.prog 39 #[v, .bool closed, .int .i64 K, .int .i64 2] w (SrP K closed l w) := by
 have hpts := pts_c l (by omega) v w hv
 unfold SrP
 cases closed with
 | true =>
  go_enter Tryz.func39, Tryz.ntmps39
  go_wp2_with (go_at_call 35; refine JR.StopM.out ?_)
  refine ⟨?_⟩
  refine hpts.mono ?_
  rintro e w1 ⟨v1, rfl, sq, hb⟩
  clear hpts hv
  go_wp2_with (go_at_call 30; refine JR.StopM.out ?_)
  refine ⟨?_⟩
  refine (index2_c K hK2 w1).mono ?_
  rintro e w2 ⟨rfl, rfl⟩
  have hb2 : Below w1.heap.size w1 (w1.alloc (.cells #[.int .u8 K, .int .i64 2] 109)) := (Below.refl _ w1).alloc (Nat.le_refl _) _
  have ho := heap_alloc_new w1 (.cells #[.int .u8 K, .int .i64 2] 109)
  have sq2 := sq.below hb2
  have hB2 := hb.trans (hb2.mono hb.size)
  have hs2 : w1.heap.size ≤ (w1.alloc (.cells #[.int .u8 K, .int .i64 2] 109)).heap.size := hb2.size
  clear hb hb2 sq
  generalize w1.alloc (.cells #[.int .u8 K, .int .i64 2] 109) = w2 at *
  go_wp2_with (go_at_call 63; refine JR.StopM.out ?_)
  refine ⟨?_⟩
  refine (newPolyK_c K hK2 l hl h2l hbd _ v1 w.heap.size w1.heap.size w2 hs2 ho sq2).mono ?_
  rintro e w3 ⟨n, b, rfl, hn, hs, hb3⟩
  have hB3 := hB2.trans (hb3.mono hB2.size)
  have hs3 := hs.wide hB2.size (Nat.le_refl _)
  have x0 := cellAt hn 0
  simp only [List.getElem?_toArray, List.getElem?_cons_zero, List.getElem?_cons_succ] at x0
  clear hn hs hb3 hB2 sq2 ho
  go_wp2
  go_ret
  exact ⟨b, rfl, hs3, hB3⟩
 | false =>
  go_enter Tryz.func39, Tryz.ntmps39
  go_wp2_with (go_at_call 35; refine JR.StopM.out ?_)
  refine ⟨?_⟩
  refine hpts.mono ?_
  rintro e w1 ⟨v1, rfl, sq, hb⟩
  clear hpts hv
  go_wp2_with (go_at_call 30; refine JR.StopM.out ?_)
  refine ⟨?_⟩
  refine (index2_c K hK2 w1).mono ?_
  rintro e w2 ⟨rfl, rfl⟩
  have hb2 : Below w1.heap.size w1 (w1.alloc (.cells #[.int .u8 K, .int .i64 2] 109)) := (Below.refl _ w1).alloc (Nat.le_refl _) _
  have ho := heap_alloc_new w1 (.cells #[.int .u8 K, .int .i64 2] 109)
  have sq2 := sq.below hb2
  have hB2 := hb.trans (hb2.mono hb.size)
  have hs2 : w1.heap.size ≤ (w1.alloc (.cells #[.int .u8 K, .int .i64 2] 109)).heap.size := hb2.size
  clear hb hb2 sq
  generalize w1.alloc (.cells #[.int .u8 K, .int .i64 2] 109) = w2 at *
  go_wp2_with (go_at_call 34; refine JR.StopM.out ?_)
  refine ⟨?_⟩
  refine (newLineK_c K l v1 _ w2 (fun u hu => makeSeriesK_c K hK2 false l hl h2l hbd _ v1 w.heap.size w1.heap.size u (Nat.le_trans hs2 hu.size) ((hu.block _ (lt_of_some ho)).trans ho) (sq2.below hu))).mono ?_
  rintro e w3 ⟨b, rfl, hs, hb3⟩
  have hB3 := hB2.trans (hb3.mono hB2.size)
  have hs3 := hs.wide hB2.size (Nat.le_refl _)
  clear hs hb3 hB2 sq2 ho
  go_wp2
  go_ret
  exact ⟨b, rfl, hs3, hB3⟩
/-- some Bool comes back, and nothing of what lay there is changed -/
def AnyB (w : World) (e : Ending) (w' : World) : Prop := ∃ b : Bool, e = .returned (.bool b) ∧ Below w.heap.size w w'

set_option maxHeartbeats 1000000 in
theorem bsValid_c (cv0 : Array Value) (l : List (Int × Int)) (hl : l.length ≤ 2147483647) (hbd : ∀ p ∈ l, -1000000 ≤ p.1 ∧ p.1 ≤ 1000000 ∧ -1000000 ≤ p.2 ∧ p.2 ≤ 1000000) (vs : Value) (T : TypeId) (b lo hi : Nat) (w : World) (h : w.heap[b]? = some (.cells cv0 T (0, 0))) (h9 : cv0[9]? = some vs) (hv : SlQ lo hi w vs l) :
  Calls Tryz.prog 188 #[.pointer (some ⟨b, 0, none⟩)] w (AnyB w) := by
 obtain ⟨A, c, rfl, hk⟩ := hv
 have x9 := (cellAt h 9).trans h9
 go_enter Tryz.func188, Tryz.ntmps188
 go_wp2
 go_loopw [10] (fun i wr => ∃ k : Nat, k ≤ l.length ∧ i = .int .i64 k ∧ Below w.heap.size w wr) (fun i _ => l.length - (intOf i).toNat)
 case atStart => exact ⟨0, Nat.zero_le _, rfl, Below.refl _ _⟩
 case round =>
  obtain ⟨k, hkl, rfl, hnx⟩ := hrel
  rcases Nat.lt_or_ge k l.length with hlt | hge
  ·obtain ⟨p, hp⟩ : ∃ p, l[k]? = some p := ⟨l[k], by simp [hlt]⟩
   obtain ⟨bb, rfl, -, -, h1, h2⟩ := hk k p hp
   have g1 := (hnx.cell (World.block_lt_of_cell? w _ h1)).trans h1
   have g2 := (hnx.cell (World.block_lt_of_cell? w _ h2)).trans h2
   simp only [Nat.zero_add] at g1 g2
   have bp := hbd p (List.mem_of_getElem? hp)
   have hB := hnx.alloc hnx.size (.cells #[fl (fb p.1), fl (fb p.2)] 74)
   have r1 := fb_rep p.1 (by omega)
   have r2 := fb_rep p.2 (by omega)
   have pv := fun u => ptv_c r1 r2 u
   generalize decide (-180 ≤ p.1 ∧ p.1 ≤ 180 ∧ -90 ≤ p.2 ∧ p.2 ≤ 90) = ok at *
   clear h1 h2 hk hbd bp r1 r2 hp
   go_wp2_with (go_at_call 67; refine JR.StopM.out ?_)
   refine ⟨?_⟩
   refine (pv _).mono ?_
   rintro e w1 ⟨rfl, hb⟩
   have hB1 := hB.trans (hb.mono hB.size)
   clear hb hB pv g1 g2
   cases ok with
   | false =>
    go_wp2
    go_ret
    exact ⟨_, rfl, hB1⟩
   | true =>
    go_wp2
    go_roundw
    case rel => exact ⟨k + 1, by omega, by go_num, hB1⟩
    case measure => simp [intOf]; omega
  ·have hkk : k = l.length := by omega
   subst hkk
   clear hk
   go_wp2
   go_ret
   exact ⟨_, rfl, hnx⟩
theorem msNum {K : Nat} {closed : Bool} {l : List (Int × Int)} {T : TypeId} {lo hi b : Nat} {w : World} (H : SkP K closed l T lo hi b w) :
  Calls Tryz.prog 163 #[.pointer (some ⟨b, 0, none⟩)] w fun e w' => e = .returned (.int .i64 l.length) ∧ Below w.heap.size w w' := kNum H
theorem msNumS {K : Nat} {closed : Bool} {l : List (Int × Int)} {T : TypeId} {lo hi b : Nat} {w : World} (H : SkP K closed l T lo hi b w) (hl : l.length ≤ 1000) (h2 : 2 ≤ l.length) (hb : ∀ p ∈ l, Bnd p) :
  Calls Tryz.prog 76 #[.pointer (some ⟨b, 0, none⟩)] w fun e w' => e = .returned (.int .i64 (nSeg closed l)) ∧ Below w.heap.size w w' := nseg_x H hl h2 hb
theorem msRect {K : Nat} {l : List (Int × Int)} {T : TypeId} {lo hi b : Nat} {w : World} (H : SkP K true l T lo hi b w) (h3 : 3 ≤ l.length) :
  Calls Tryz.prog 132 #[.pointer (some ⟨b, 0, none⟩)] w fun e w' => e = .returned (.agg #[fl (fb (box l).1), fl (fb (box l).2.1), fl (fb (box l).2.2.1), fl (fb (box l).2.2.2)]) ∧ Below w.heap.size w w' := by
 have h := kRect H
 have e : ppB true l = box l := by unfold ppB tooS; rw [if_neg (by simp; try omega)]
 rw [e] at h
 exact h
theorem msEmpty {K : Nat} {closed : Bool} {l : List (Int × Int)} {T : TypeId} {lo hi b : Nat} {w : World} (H : SkP K closed l T lo hi b w) (hn : 2 ≤ l.length) (h3n : closed = true → 3 ≤ l.length) :
  Calls Tryz.prog 131 #[.pointer (some ⟨b, 0, none⟩)] w fun e w' => e = .returned (.bool false) ∧ Below w.heap.size w w' := kEmptyC H hn h3n
theorem msConvex {K : Nat} {closed : Bool} {l : List (Int × Int)} {T : TypeId} {lo hi b : Nat} {w : World} (H : SkP K closed l T lo hi b w) :
  Calls Tryz.prog 180 #[.pointer (some ⟨b, 0, none⟩)] w fun e w' => e = .returned (.bool (ppV closed l)) ∧ Below w.heap.size w w' := kConvex H
theorem msPoint {K : Nat} {closed : Bool} {l : List (Int × Int)} {T : TypeId} {lo hi b : Nat} {w : World} (H : SkP K closed l T lo hi b w) (k : Nat) (p : Int × Int) (hp : l[k]? = some p) (hl : l.length ≤ 1000) :
  Calls Tryz.prog 164 #[.pointer (some ⟨b, 0, none⟩), .int .i64 k] w fun e w' => e = .returned (.agg #[fl (fb p.1), fl (fb p.2)]) ∧ Below w.heap.size w w' := by
 have hkl : k < l.length := by
  rcases Nat.lt_or_ge k l.length with h | h
  ·exact h
  ·rw [List.getElem?_eq_none h] at hp; cases hp
 rw [at_get hkl] at hp
 cases hp
 exact kPoint H k hkl hl
theorem msSeg {K : Nat} {closed : Bool} {l : List (Int × Int)} {T : TypeId} {lo hi b : Nat} {w : World} (H : SkP K closed l T lo hi b w) (hl : l.length ≤ 1000) (k : Nat) (hk : k < nSeg closed l) (p q : Int × Int) (hp : l[k]? = some p) (hq : l[if k = l.length - 1 then 0 else k + 1]? = some q) :
  Calls Tryz.prog 77 #[.pointer (some ⟨b, 0, none⟩), .int .i64 k] w fun e w' => e = .returned (.agg #[fl (fb p.1), fl (fb p.2), fl (fb q.1), fl (fb q.2)]) ∧ Below w.heap.size w w' := by
 obtain ⟨g1, g2⟩ := seg_pts (closed := closed) (l := l) (k := k) hk
 rw [at_get g1] at hp
 rw [at_get g2] at hq
 cases hp
 cases hq
 have h := sgat_x H hl k hk
 have e : nxp l k = at' l (if k = l.length - 1 then 0 else k + 1) := by unfold nxp; split <;> rfl
 unfold sgv at h
 rw [e] at h
 exact h
theorem msClock {K : Nat} {closed : Bool} {l : List (Int × Int)} {T : TypeId} {lo hi b : Nat} {w : World} (H : SkP K closed l T lo hi b w) :
  Calls Tryz.prog 176 #[.pointer (some ⟨b, 0, none⟩)] w fun e w' => e = .returned (.bool (ppW closed l)) ∧ Below w.heap.size w w' := by
 obtain ⟨ix, v', -, -, -, h3, h4⟩ := H
 obtain ⟨A, c, rfl⟩ := h4.len
 have x := cellAt h3 1
 simp only [serC, List.getElem?_toArray, List.getElem?_cons_zero, List.getElem?_cons_succ] at x
 clear h3 h4
 generalize ppW closed l = cw at *
 generalize ppV closed l = cv at *
 go_enter Tryz.func176, Tryz.ntmps176
 go_wp2
 go_ret
 exact ⟨rfl, Below.refl _ _⟩
theorem msIndex {K : Nat} {closed : Bool} {l : List (Int × Int)} {T : TypeId} {lo hi b : Nat} {w : World} (H : SkP K closed l T lo hi b w) :
  Calls Tryz.prog 181 #[.pointer (some ⟨b, 0, none⟩)] w fun e w' => ∃ ix, (ix = .nilIface ∨ ∃ y, ix = .iface 145 y) ∧ e = .returned ix ∧ Below w.heap.size w w' := by
 obtain ⟨ix, v', hx, -, -, h3, h4⟩ := H
 have x := cellAt h3 4
 simp only [serC, List.getElem?_toArray, List.getElem?_cons_zero, List.getElem?_cons_succ] at x
 have hx' : ix = .nilIface ∨ ∃ y, ix = .iface 145 y := by
  rcases hx with ⟨-, h⟩ | ⟨-, g, h, -⟩
  ·exact .inl h
  ·exact .inr ⟨_, h⟩
 clear h3 h4 hx
 go_enter Tryz.func181, Tryz.ntmps181
 go_wp2
 go_ret
 exact ⟨_, hx', rfl, Below.refl _ _⟩
theorem msValid {K : Nat} {closed : Bool} {l : List (Int × Int)} {T : TypeId} {lo hi b : Nat} {w : World} (H : SkP K closed l T lo hi b w) (hl : l.length ≤ 1000) (hb : ∀ p ∈ l, Bnd p) :
  Calls Tryz.prog 188 #[.pointer (some ⟨b, 0, none⟩)] w (AnyB w) := by
 obtain ⟨ix, v', -, -, -, h, h4⟩ := H
 exact bsValid_c _ l (by omega) (fun p hp => by obtain ⟨h1, h2⟩ := hb p hp; omega) v' T b lo hi w h rfl h4
theorem infoSA : (Tryz.prog.info? 49).map (fun i => (i.zero, i.size, i.bytes)) = some (some (.agg #[.int .i64 0, .int .i64 0, .int .i64 0, .int .i64 0]), 4, 32) := by kernel_rfl
theorem box_bnd {l : List (Int × Int)} (h : ∀ p ∈ l, Bnd p) : Bnd ((box l).1, (box l).2.1) ∧ Bnd ((box l).2.2.1, (box l).2.2.2) := bxs_bnd l _ h (at_bnd h 0) (at_bnd h 0)
theorem ixNe' (x : Value) (h : x = .nilIface ∨ ∃ y, x = .iface 145 y) : ∃ bi : Bool, (∀ w, (binOp .neq 20 x .nilIface).run Tryz.prog w = .ok (.bool bi) w) ∧ ∀ w, (eqGuard .neq 20 (.tmp 35) (.const .nilIface) x .nilIface).run Tryz.prog w = .ok () w := by
 rcases h with rfl | ⟨y, rfl⟩
 ·exact ⟨false, fun w => by kernel_rfl, fun w => by kernel_rfl⟩
 ·exact ⟨true, fun w => by kernel_rfl, fun w => by kernel_rfl⟩
/-- what a series says of itself -/
def SoP (closed : Bool) (l : List (Int × Int)) (w : World) (e : Ending) (w' : World) : Prop :=
 ∃ (A : Option Addr) (c : Nat) (B : Option Addr) (m d : Nat) (bv bi : Bool), e = .returned (.agg #[.int .i64 l.length, .int .i64 (nSeg closed l), .slice A l.length c, .slice B m d, .int .i64 (box l).1, .int .i64 (box l).2.1, .int .i64 (box l).2.2.1, .int .i64 (box l).2.2.2, .bool false, .bool bv, .bool (ppV closed l), .bool (ppW closed l), .bool bi]) ∧
  SlR w.heap.size w'.heap.size w' (.slice A l.length c) l ∧ Below w.heap.size w w'
theorem mthNum_true (b : Nat) (w : World) : (method 329 134 (.pointer (some ⟨b, 0, none⟩)) "NumPoints").run Tryz.prog w = .ok (163, .pointer (some ⟨b, 0, none⟩)) w := by kernel_rfl
theorem mthNumS_true (b : Nat) (w : World) : (method 329 134 (.pointer (some ⟨b, 0, none⟩)) "NumSegments").run Tryz.prog w = .ok (76, .pointer (some ⟨b, 0, none⟩)) w := by kernel_rfl
theorem mthRect_true (b : Nat) (w : World) : (method 329 134 (.pointer (some ⟨b, 0, none⟩)) "Rect").run Tryz.prog w = .ok (132, .pointer (some ⟨b, 0, none⟩)) w := by kernel_rfl
theorem mthEmpty_true (b : Nat) (w : World) : (method 329 134 (.pointer (some ⟨b, 0, none⟩)) "Empty").run Tryz.prog w = .ok (131, .pointer (some ⟨b, 0, none⟩)) w := by kernel_rfl
theorem mthConvex_true (b : Nat) (w : World) : (method 329 134 (.pointer (some ⟨b, 0, none⟩)) "Convex").run Tryz.prog w = .ok (180, .pointer (some ⟨b, 0, none⟩)) w := by kernel_rfl
theorem mthClock_true (b : Nat) (w : World) : (method 329 134 (.pointer (some ⟨b, 0, none⟩)) "Clockwise").run Tryz.prog w = .ok (176, .pointer (some ⟨b, 0, none⟩)) w := by kernel_rfl
theorem mthIndex_true (b : Nat) (w : World) : (method 329 134 (.pointer (some ⟨b, 0, none⟩)) "Index").run Tryz.prog w = .ok (181, .pointer (some ⟨b, 0, none⟩)) w := by kernel_rfl
theorem mthPoint_true (b : Nat) (w : World) : (method 329 134 (.pointer (some ⟨b, 0, none⟩)) "PointAt").run Tryz.prog w = .ok (164, .pointer (some ⟨b, 0, none⟩)) w := by kernel_rfl
theorem mthSeg_true (b : Nat) (w : World) : (method 329 134 (.pointer (some ⟨b, 0, none⟩)) "SegmentAt").run Tryz.prog w = .ok (77, .pointer (some ⟨b, 0, none⟩)) w := by kernel_rfl
theorem mthValid_true (b : Nat) (w : World) : (method 329 134 (.pointer (some ⟨b, 0, none⟩)) "Valid").run Tryz.prog w = .ok (188, .pointer (some ⟨b, 0, none⟩)) w := by kernel_rfl

set_option maxRecDepth 100000 in
set_option maxHeartbeats 8000000 in
theorem seriesOf_true (K : Nat) (hK2 : K ≤ 2) (l : List (Int × Int)) (hl : l.length ≤ 12) (h2l : 2 ≤ l.length) (h3l : true = true → 3 ≤ l.length) (hbd : ∀ p ∈ l, Bnd p) (v : Value) (w : World) (hv : SlP w v l) :
  Calls Tryz.prog 23 #[v, .bool true, .int .i64 K, .int .i64 2] w (SoP true l w) := by
 have st0 := (Blk.nil w).push rfl #[.int .i64 0, .int .i64 0, .slice none 0 0, .slice none 0 0, .int .i64 0, .int .i64 0, .int .i64 0, .int .i64 0, .bool false, .bool false, .bool false, .bool false, .bool false] 51
 have h3 : 3 ≤ l.length := h3l rfl
 have y1 : 0 ≤ 0 := Nat.le_refl _
 clear h3l
 unfold SoP
 go_enter Tryz.func23, Tryz.ntmps23
 go_wp2_with (go_at_call 39; refine JR.StopM.out ?_)
 refine ⟨?_⟩
 refine (series_c K hK2 true l hl h2l hbd v _ (hv.below st0.hb)).mono ?_
 rintro e w1 ⟨b, rfl, hs1, hb⟩
 have st1 := st0.ext hb
 clear st0 hv
 have z1 : w.heap.size + 1 ≤ w1.heap.size := by have := hb.size; simpa using this
 have hs1 : SkP K true l 113 (w.heap.size + 1) w1.heap.size b w1 := by simpa [serB] using hs1
 clear hb
 simp only [serT, if_true, if_false, Bool.false_eq_true]
 replace y1 : w1.heap.size ≤ w1.heap.size := Nat.le_refl _
 have n1 := mthNum_true b
 have n2 := mthNumS_true b
 have n3 := mthRect_true b
 have n4 := mthEmpty_true b
 have n5 := mthValid_true b
 have n6 := mthConvex_true b
 have n7 := mthClock_true b
 have n8 := mthIndex_true b
 have n9 := mthPoint_true b
 have n10 := mthSeg_true b
 obtain ⟨q1, q2⟩ := box_bnd hbd
 go_wp2_with (go_at_call 163; refine JR.StopM.out ?_)
 refine ⟨?_⟩
 refine (msNum hs1).mono ?_
 rintro e w2 ⟨rfl, hb⟩
 have hs2 := hs1.below hb
 have st2 := st1.ext hb
 have y2 : w1.heap.size ≤ w2.heap.size := Nat.le_trans y1 hb.size
 clear hb hs1 st1 y1
 go_wp2_with (go_at_call 76; refine JR.StopM.out ?_)
 refine ⟨?_⟩
 refine (msNumS hs2 (by omega) h2l hbd).mono ?_
 rintro e w3 ⟨rfl, hb⟩
 have hs3 := hs2.below hb
 have st3 := st2.ext hb
 have y3 : w1.heap.size ≤ w3.heap.size := Nat.le_trans y2 hb.size
 clear hb hs2 st2 y2
 go_wp2_with (go_at_call 132; refine JR.StopM.out ?_)
 refine ⟨?_⟩
 refine (msRect hs3 h3).mono ?_
 rintro e w4 ⟨rfl, hb⟩
 have hs4 := hs3.below hb
 have st4 := st3.ext hb
 have y4 : w1.heap.size ≤ w4.heap.size := Nat.le_trans y3 hb.size
 clear hb hs3 st3 y3
 go_wp2_with (go_at_call 40; refine JR.StopM.out ?_)
 refine ⟨?_⟩
 refine (corn_c (fb_rep (box l).1 (by have := q1.1; omega)) (fb_rep (box l).2.1 (by have := q1.2; omega)) (fb_rep (box l).2.2.1 (by have := q2.1; omega)) (fb_rep (box l).2.2.2 (by have := q2.2; omega)) (fun a b w => from_c a b w) _).mono ?_
 rintro e w5 ⟨rfl, hb⟩
 have hs5 := hs4.below hb
 have st5 := st4.ext hb
 have y5 : w1.heap.size ≤ w5.heap.size := Nat.le_trans y4 hb.size
 clear hb hs4 st4 y4
 go_wp2_with (go_at_call 131; refine JR.StopM.out ?_)
 refine ⟨?_⟩
 refine (msEmpty hs5 h2l (fun _ => h3)).mono ?_
 rintro e w6 ⟨rfl, hb⟩
 have hs6 := hs5.below hb
 have st6 := st5.ext hb
 have y6 : w1.heap.size ≤ w6.heap.size := Nat.le_trans y5 hb.size
 clear hb hs5 st5 y5
 go_wp2_with (go_at_call 188; refine JR.StopM.out ?_)
 refine ⟨?_⟩
 refine (msValid hs6 (by omega) hbd).mono ?_
 rintro e w7 ⟨bv, rfl, hb⟩
 have hs7 := hs6.below hb
 have st7 := st6.ext hb
 have y7 : w1.heap.size ≤ w7.heap.size := Nat.le_trans y6 hb.size
 clear hb hs6 st6 y6
 go_wp2_with (go_at_call 180; refine JR.StopM.out ?_)
 refine ⟨?_⟩
 refine (msConvex hs7).mono ?_
 rintro e w8 ⟨rfl, hb⟩
 have hs8 := hs7.below hb
 have st8 := st7.ext hb
 have y8 : w1.heap.size ≤ w8.heap.size := Nat.le_trans y7 hb.size
 clear hb hs7 st7 y7
 go_wp2_with (go_at_call 176; refine JR.StopM.out ?_)
 refine ⟨?_⟩
 refine (msClock hs8).mono ?_
 rintro e w9 ⟨rfl, hb⟩
 have hs9 := hs8.below hb
 have st9 := st8.ext hb
 have y9 : w1.heap.size ≤ w9.heap.size := Nat.le_trans y8 hb.size
 clear hb hs8 st8 y8
 go_wp2_with (go_at_call 181; refine JR.StopM.out ?_)
 refine ⟨?_⟩
 refine (msIndex hs9).mono ?_
 rintro e w10 ⟨ix, hix, rfl, hb⟩
 have hs10 := hs9.below hb
 have st10 := st9.ext hb
 have y10 : w1.heap.size ≤ w10.heap.size := Nat.le_trans y9 hb.size
 clear hb hs9 st9 y9
 obtain ⟨bi, hne, heg⟩ := ixNe' ix hix
 clear hix
 generalize ecw : ppW true l = cw at *
 generalize ecv : ppV true l = cv at *
 go_wp2_with (with_reducible refine stop_loop ?_)
 refine ⟨?_⟩
 have hnewA := heap_alloc_new w10 (.cells #[.int .i64 l.length, .int .i64 (nSeg true l), .slice none 0 0, .slice none 0 0, .int .i64 (box l).1, .int .i64 (box l).2.1, .int .i64 (box l).2.2.1, .int .i64 (box l).2.2.2, .bool false, .bool bv, .bool cv, .bool cw, .bool bi] 51)
 have R11 := (Below.heap_alloc w10 (.cells #[.int .i64 l.length, .int .i64 (nSeg true l), .slice none 0 0, .slice none 0 0, .int .i64 (box l).1, .int .i64 (box l).2.1, .int .i64 (box l).2.2.1, .int .i64 (box l).2.2.2, .bool false, .bool bv, .bool cv, .bool cw, .bool bi] 51) _ (st10.lt 0 rfl)).trans (st10.known 0 _ rfl)
 have B11 : Below w.heap.size w (w10.alloc (.cells #[.int .i64 l.length, .int .i64 (nSeg true l), .slice none 0 0, .slice none 0 0, .int .i64 (box l).1, .int .i64 (box l).2.1, .int .i64 (box l).2.2.1, .int .i64 (box l).2.2.2, .bool false, .bool bv, .bool cv, .bool cw, .bool bi] 51)) := st10.hb.alloc st10.hb.size _
 have hs11 := hs10.below ((Below.refl _ w10).alloc (Nat.le_refl _) (.cells #[.int .i64 l.length, .int .i64 (nSeg true l), .slice none 0 0, .slice none 0 0, .int .i64 (box l).1, .int .i64 (box l).2.1, .int .i64 (box l).2.2.1, .int .i64 (box l).2.2.2, .bool false, .bool bv, .bool cv, .bool cw, .bool bi] 51))
 have z11 : (w10.alloc (.cells #[.int .i64 l.length, .int .i64 (nSeg true l), .slice none 0 0, .slice none 0 0, .int .i64 (box l).1, .int .i64 (box l).2.1, .int .i64 (box l).2.2.1, .int .i64 (box l).2.2.2, .bool false, .bool bv, .bool cv, .bool cw, .bool bi] 51)).heap.size = w10.heap.size + 1 := by simp
 generalize w10.alloc (.cells #[.int .i64 l.length, .int .i64 (nSeg true l), .slice none 0 0, .slice none 0 0, .int .i64 (box l).1, .int .i64 (box l).2.1, .int .i64 (box l).2.2.1, .int .i64 (box l).2.2.2, .bool false, .bool bv, .bool cv, .bool cw, .bool bi] 51) = w11 at *
 generalize hb10 : w10.heap.size = b10 at *
 clear st10 hs10 hne heg
 have hlb : w.heap.size < b10 := by omega
 go_loopw [11] (fun v11 wr => ∃ k : Nat, k ≤ l.length ∧ v11 = .int .i64 k ∧ ∃ vp : Value, wr.ownsRow (b10 + 1) 42 2 vp k (cellsP (l.take k)) ∧ wr.heap[b10]? = some (.cells #[.int .i64 l.length, .int .i64 (nSeg true l), vp, .slice none 0 0, .int .i64 (box l).1, .int .i64 (box l).2.1, .int .i64 (box l).2.2.1, .int .i64 (box l).2.2.2, .bool false, .bool bv, .bool cv, .bool cw, .bool bi] 51 (0, 0)) ∧ wr.heap[w.heap.size]? = some (.cells #[.int .i64 0, .int .i64 0, .slice none 0 0, .slice none 0 0, .int .i64 0, .int .i64 0, .int .i64 0, .int .i64 0, .bool false, .bool false, .bool false, .bool false, .bool false] 51 (0, 0)) ∧ SkP K true l 113 (w.heap.size + 1) w1.heap.size b wr ∧ Below w.heap.size w wr ∧ b10 + 1 ≤ wr.heap.size) (fun v _ => l.length - (intOf v).toNat)
 case atStart => exact ⟨0, Nat.zero_le _, rfl, .slice none 0 0, World.ownsRow_nil _ _ _ _, hnewA, R11, hs11, B11, by omega⟩
 case round =>
  obtain ⟨k, hk, rfl, vp, o1, G5, R5, S5, B5, Z5⟩ := hrel
  clear hnewA R11 hs11 B11 z11
  go_wp2_with (first | (go_at_call 163; refine JR.StopM.out ?_) | (with_reducible refine stop_region ?_))
  refine ⟨?_⟩
  refine (msNum S5).mono ?_
  rintro e w5 ⟨rfl, hb5⟩
  have G6 := (hb5.block b10 (lt_of_some G5)).trans G5
  have R6 := (hb5.block w.heap.size (lt_of_some R5)).trans R5
  have S6 := S5.below hb5
  have O1 := o1.kept (Ext.grown hb5 none) (own_no _)
  have B6 : Below w.heap.size w w5 := B5.trans (hb5.mono B5.size)
  have Z6 : b10 + 1 ≤ w5.heap.size := Nat.le_trans Z5 hb5.size
  clear hb5 G5 R5 o1 B5 Z5 S5
  rcases Nat.lt_or_ge k l.length with hlt | hge
  ·have hp := at_get hlt
   have hpb := at_bnd hbd k
   obtain ⟨pb1, pb2⟩ := hpb
   generalize at' l k = p at *
   have hlt' : (k : Int) < (l.length : Int) := by omega
   have hfg := fun g (hg : vp.ownBlock = some g) => O1.lt g hg
   have hnb : b10 ∉ vp.ownBlock.toList := by intro hm; simp at hm; have := (hfg _ hm).1; omega
   have hnr : w.heap.size ∉ b10 :: vp.ownBlock.toList := by intro hm; simp at hm; rcases hm with hm | hm; omega; have := (hfg _ hm).1; omega
   have hnS : ∀ j, j < w1.heap.size → j ∉ b10 :: vp.ownBlock.toList := by intro j hj hm; simp at hm; rcases hm with hm | hm; omega; have := (hfg _ hm).1; omega
   obtain ⟨i25, hi, hz0, hz1, hz2⟩ := info_parts infoP
   go_wp2_with (with_reducible refine stop_region ?_)
   refine ⟨?_⟩
   refine wp_region_K (b10 :: vp.ownBlock.toList) [.val (.pointer (some ⟨b10, 2, none⟩)), .val vp, .val (.iface 134 (.pointer (some ⟨b, 0, none⟩))), .val (.int .i64 k), .val (.agg #[fl (fb p.1), fl (fb p.2)]), .val (.agg #[.int .i64 p.1, .int .i64 p.2]),
     .slc 42 #[.int .i64 p.1, .int .i64 p.2], .app vp k (cellsP (l.take k)) (b10 + 1) 42 2 (k + 1) (cellsP (l.take k) ++ [.int .i64 p.1, .int .i64 p.2]), .val (.pointer (some ⟨b10, 2, none⟩)), .turnS b10 #[.int .i64 l.length, .int .i64 (nSeg true l), vp, .slice none 0 0, .int .i64 (box l).1, .int .i64 (box l).2.1, .int .i64 (box l).2.2.1, .int .i64 (box l).2.2.2, .bool false, .bool bv, .bool cv, .bool cw, .bool bi] 2 51 51]
    [[.ini 10], [.frm 0 44, .til 9], [.ini 9], [.ini 11], [.frm 2 46, .frm 3 47], [.frm 4 48], [.frm 5 49], [.frm 1 45, .frm 6 50, .til 7], [.ini 10], [.frm 8 52, .frm 7 51, .til 9]]
    mixed (by kernel_rfl) (by kernel_rfl) (allPre_of ⟨trivial, trivial, trivial, trivial, trivial, trivial, trivial, O1, trivial, G6, trivial⟩)
    ⟨OpOk.quiet rfl ?_, OpOk.quiet rfl ?_, OpOk.quiet rfl ?_, OpOk.quiet rfl ?_, OpOk.call rfl ?_, OpOk.call rfl ?_, slc_run rfl ?_,
     OpOk.app (inf := i25) rfl rfl Tryz.underlying24 hi hz0 hz1 hz2 rfl (by decide) rfl (by intro u hu; simp at hu; rcases hu with rfl | rfl <;> rfl) (by unfold maxLen; omega) (by omega) Z6 (fun _ hG => hG.size) (fun b hb => (hfg b hb).2)
      (fun b hb => ⟨row_still rfl, row_still rfl, row_still rfl, row_still rfl, row_still rfl, row_still rfl, row_none rfl (fun h => (nomatch h)), row_self rfl, row_still rfl, row_turnS (by have := (hfg b hb).1; omega), trivial⟩)
      (fun b hb => oldFree_of ⟨.inr (fun h => (nomatch h)), .inr (fun h => (nomatch h)), .inr (fun h => (nomatch h)), .inr (fun h => (nomatch h)), .inr (fun h => (nomatch h)), .inr (fun h => (nomatch h)), .inr (fun h => (nomatch h)), .inl rfl, .inr (fun h => (nomatch h)), .inr (by have := (hfg b hb).1; simp [Ent.turnS]; omega), trivial⟩)
      ?_ (fun _ b _ hb h => Keep.setRow h (.inr (by simp [hb]))), OpOk.quiet rfl ?_,
     OpOk.turnS rfl rfl (lt_of_some G6) ⟨row_still rfl, row_still rfl, row_still rfl, row_still rfl, row_still rfl, row_still rfl, row_none rfl (fun h => (nomatch h)), row_none rfl hnb, row_still rfl, row_self rfl, trivial⟩
      (oldFree_of ⟨.inr (fun h => (nomatch h)), .inr (fun h => (nomatch h)), .inr (fun h => (nomatch h)), .inr (fun h => (nomatch h)), .inr (fun h => (nomatch h)), .inr (fun h => (nomatch h)), .inr (fun h => (nomatch h)), .inr hnb, .inr (fun h => (nomatch h)), .inl rfl, trivial⟩)
      (by kernel_rfl) (by simp) ?_ (fun _ _ h => Keep.setRow h (.inr (by simp))), trivial⟩ ?_
   ·intro a u _ hf
    simp [facts, Need.fact, Act.eval] at hf
    go_simp
   ·intro a u _ hf
    obtain ⟨⟨_, _, f1⟩, f2, -⟩ := hf
    have f1' : a.eval (.tmp 44) = .pointer (some ⟨b10, 2, none⟩) := f1
    have c11 := cellAt (show u.heap[b10]? = some (.cells #[.int .i64 l.length, .int .i64 (nSeg true l), vp, .slice none 0 0, .int .i64 (box l).1, .int .i64 (box l).2.1, .int .i64 (box l).2.2.1, .int .i64 (box l).2.2.2, .bool false, .bool bv, .bool cv, .bool cw, .bool bi] 51 (0, 0)) from f2) 2
    simp only [List.getElem?_toArray, List.getElem?_cons_zero, List.getElem?_cons_succ] at c11
    clear f1 f2
    simp [Act.eval] at f1'
    go_simp
   ·intro a u _ hf
    simp [facts, Need.fact, Act.eval] at hf
    go_simp
   ·intro a u _ hf
    simp [facts, Need.fact, Act.eval] at hf
    go_simp
   ·intro a u hG hf
    simp [facts, Need.fact, Ent.val, Act.eval] at hf
    have S7 := S6.keep fun j h1 h2 h3 => hG.block j h3 (hnS j h2)
    refine ⟨_, _, by go_simp, (msPoint S7 k p hp (by omega)).mono ?_⟩
    rintro e w' ⟨rfl, hb⟩
    exact ⟨_, rfl, hb, rfl⟩
   ·intro a u _ hf
    simp [facts, Need.fact, Ent.val, Act.eval] at hf
    refine ⟨_, _, by go_simp, (from_c (fb_rep p.1 (by omega)) (fb_rep p.2 (by omega)) _).mono ?_⟩
    rintro e w' ⟨rfl, hb⟩
    exact ⟨_, rfl, hb, rfl⟩
   ·intro a u _ hf
    simp [facts, Need.fact, Ent.val, Act.eval] at hf
    go_simp
   ·intro a u _ hf
    obtain ⟨⟨_, _, f1⟩, ⟨_, _, b, f2, _, _, f3⟩, f4, -⟩ := hf
    exact ⟨f1, f4, ⟨b, 0, none⟩, 1, f2, row_cells f3⟩
   ·intro a u _ hf
    simp [facts, Need.fact, Act.eval] at hf
    go_simp
   ·intro a u _ hf
    obtain ⟨⟨_, _, f1⟩, ⟨_, _, f2, f5⟩, f4, -⟩ := hf
    exact ⟨f1, own_one f2, f4⟩
   ·intro uu l' h wc hK hE hI hD
    obtain ⟨v0, v1, v2, v3, v4, v5, ⟨b6, v6, -, -, -⟩, ⟨o7, -⟩, v8, e9, -⟩ := hE
    replace v0 : uu 0 = .pointer (some ⟨b10, 2, none⟩) := v0
    replace v1 : uu 1 = vp := v1
    replace v2 : uu 2 = .iface 134 (.pointer (some ⟨b, 0, none⟩)) := v2
    replace v3 : uu 3 = .int .i64 k := v3
    replace v4 : uu 4 = .agg #[fl (fb p.1), fl (fb p.2)] := v4
    replace v5 : uu 5 = .agg #[.int .i64 p.1, .int .i64 p.2] := v5
    replace v8 : uu 8 = .pointer (some ⟨b10, 2, none⟩) := v8
    simp [Ent.turnS, allPut, Act.put, Act.eval, Array.setIfInBounds] at e9
    have R' := (hK.block w.heap.size (lt_of_some R6) hnr).trans R6
    have S' := S6.keep fun j h1 h2 h3 => hK.block j h3 (hnS j h2)
    have B' := Keep.belowX (B := w.heap.size) hK B6 B6.size (by intro x hx; simp at hx; rcases hx with hx | hx; omega; have := (hfg _ hx).1; omega)
    have Z' : b10 + 1 ≤ wc.heap.size := Nat.le_trans Z6 hK.size
    rw [← cellsP_snoc l k p hp] at o7
    simp only [allPut, Act.put, v0, v1, v2, v3, v4, v5, v6, v8]
    generalize uu 7 = v7 at *
    clear v0 v1 v2 v3 v4 v5 v6 v8 hK hI hD G6 R6 S6 O1 B6 Z6 hfg hnb hnr hnS
    go_wp2
    go_roundw
    case rel => exact ⟨k + 1, by omega, by go_num, v7, o7, e9, R', S', B', Z'⟩
    case measure => simp [intOf]; omega
  ·have hk5 : k = l.length := by omega
   subst hk5
   rw [List.take_length] at O1
   obtain ⟨g5, cp, rfl⟩ := own_slice O1 (by omega)
   have Q6 := SlR.own O1 (Nat.le_refl _)
   obtain ⟨b12, hb12⟩ : ∃ b12, b12 = w5.heap.size := ⟨_, rfl⟩
   have hbq : b10 + 1 ≤ b12 := by omega
   rw [← hb12] at Q6
   clear O1
   go_wp2_with (with_reducible refine stop_loop ?_)
   refine ⟨?_⟩
   go_loopw [12] (fun v12 wr => ∃ k : Nat, k ≤ nSeg true l ∧ v12 = .int .i64 k ∧ ∃ (vs : Value) (xs : List Value), wr.ownsRow b12 49 4 vs k xs ∧ wr.heap[b10]? = some (.cells #[.int .i64 l.length, .int .i64 (nSeg true l), .slice (some g5) l.length cp, vs, .int .i64 (box l).1, .int .i64 (box l).2.1, .int .i64 (box l).2.2.1, .int .i64 (box l).2.2.2, .bool false, .bool bv, .bool cv, .bool cw, .bool bi] 51 (0, 0)) ∧ wr.heap[w.heap.size]? = some (.cells #[.int .i64 0, .int .i64 0, .slice none 0 0, .slice none 0 0, .int .i64 0, .int .i64 0, .int .i64 0, .int .i64 0, .bool false, .bool false, .bool false, .bool false, .bool false] 51 (0, 0)) ∧ SkP K true l 113 (w.heap.size + 1) w1.heap.size b wr ∧ Below w.heap.size w wr ∧ b12 ≤ wr.heap.size ∧ SlR (b10 + 1) b12 wr (.slice (some g5) l.length cp) l) (fun v _ => nSeg true l - (intOf v).toNat)
   case atStart => exact ⟨0, Nat.zero_le _, rfl, .slice none 0 0, [], World.ownsRow_nil _ _ _ _, G6, R6, S6, B6, by omega, Q6⟩
   case round =>
    obtain ⟨k, hk, rfl, vs, xs, o1, G5, R5, S5, B5, Z5, Q5⟩ := hrel
    clear G6 R6 S6 B6 Z6 Q6 hb12
    go_wp2_with (first | (go_at_call 76; refine JR.StopM.out ?_) | (with_reducible refine stop_region ?_))
    refine ⟨?_⟩
    refine (msNumS S5 (by omega) h2l hbd).mono ?_
    rintro e w6 ⟨rfl, hb5⟩
    have G6 := (hb5.block b10 (lt_of_some G5)).trans G5
    have R6 := (hb5.block w.heap.size (lt_of_some R5)).trans R5
    have S6 := S5.below hb5
    have O1 := o1.kept (Ext.grown hb5 none) (own_no _)
    have B6 : Below w.heap.size w w6 := B5.trans (hb5.mono B5.size)
    have Z6 : b12 ≤ w6.heap.size := Nat.le_trans Z5 hb5.size
    have Q6 : SlR (b10 + 1) b12 w6 (.slice (some g5) l.length cp) l := Q5.keep fun j h1 h2 => hb5.block j (by omega)
    clear hb5 G5 R5 o1 B5 Z5 S5 Q5
    rcases Nat.lt_or_ge k (nSeg true l) with hlt | hge
    ·obtain ⟨g1, g2⟩ := seg_pts (closed := true) (l := l) (k := k) hlt
     have a1 := at_get g1
     have a2 := at_get g2
     obtain ⟨pb1, pb2⟩ := at_bnd hbd k
     obtain ⟨qb1, qb2⟩ := at_bnd hbd (if k = l.length - 1 then 0 else k + 1)
     have hsg := msSeg S6 (by omega) k hlt _ _ a1 a2
     generalize at' l k = p at *
     generalize at' l (if k = l.length - 1 then 0 else k + 1) = q at *
     have hlt' : (k : Int) < (nSeg true l : Int) := by omega
     have hns := nSeg_le true l
     clear a1 a2 g1 g2
     go_wp2_with (first | (go_at_call 77; refine JR.StopM.out ?_) | (with_reducible refine stop_region ?_))
     refine ⟨?_⟩
     refine hsg.mono ?_
     rintro e w7 ⟨rfl, hb6⟩
     have G7 := (hb6.block b10 (lt_of_some G6)).trans G6
     have R7 := (hb6.block w.heap.size (lt_of_some R6)).trans R6
     have S7 := S6.below hb6
     have O2 := O1.kept (Ext.grown hb6 none) (own_no _)
     have B7 : Below w.heap.size w w7 := B6.trans (hb6.mono B6.size)
     have Z7 : b12 ≤ w7.heap.size := Nat.le_trans Z6 hb6.size
     have Q7 : SlR (b10 + 1) b12 w7 (.slice (some g5) l.length cp) l := Q6.keep fun j h1 h2 => hb6.block j (by omega)
     clear hb6 G6 R6 O1 B6 Z6 S6 Q6 hsg
     go_wp2_with (with_reducible refine stop_region ?_)
     refine ⟨?_⟩
     have hfg := fun g (hg : vs.ownBlock = some g) => O2.lt g hg
     have hnb : b10 ∉ vs.ownBlock.toList := by intro hm; simp at hm; have := (hfg _ hm).1; omega
     have hnr : w.heap.size ∉ b10 :: vs.ownBlock.toList := by intro hm; simp at hm; rcases hm with hm | hm; omega; have := (hfg _ hm).1; omega
     have hnS : ∀ j, j < w1.heap.size → j ∉ b10 :: vs.ownBlock.toList := by intro j hj hm; simp at hm; rcases hm with hm | hm; omega; have := (hfg _ hm).1; omega
     have hns : w7.heap.size ∉ b10 :: vs.ownBlock.toList := by intro hm; simp at hm; rcases hm with hm | hm; omega; have := (hfg _ hm).2; omega
     have hnq : ∀ j, b10 + 1 ≤ j → j < b12 → j ∉ b10 :: vs.ownBlock.toList := by intro j h1 h2 hm; simp at hm; rcases hm with hm | hm; omega; have := (hfg _ hm).1; omega
     have hsz8 : (w7.alloc (.cells #[fl (fb p.1), fl (fb p.2), fl (fb q.1), fl (fb q.2)] 100)).heap.size = w7.heap.size + 1 := by simp
     have G8 : (w7.alloc (.cells #[fl (fb p.1), fl (fb p.2), fl (fb q.1), fl (fb q.2)] 100)).heap[b10]? = _ := (Below.heap_alloc w7 _ _ (lt_of_some G7)).trans G7
     have R8 : (w7.alloc (.cells #[fl (fb p.1), fl (fb p.2), fl (fb q.1), fl (fb q.2)] 100)).heap[w.heap.size]? = _ := (Below.heap_alloc w7 _ _ (lt_of_some R7)).trans R7
     have hbA : Below w7.heap.size w7 (w7.alloc (.cells #[fl (fb p.1), fl (fb p.2), fl (fb q.1), fl (fb q.2)] 100)) := (Below.refl _ w7).alloc (Nat.le_refl _) _
     have S8 := S7.below hbA
     have V8 := heap_alloc_new w7 (.cells #[fl (fb p.1), fl (fb p.2), fl (fb q.1), fl (fb q.2)] 100)
     have O3 := O2.alloc (.cells #[fl (fb p.1), fl (fb p.2), fl (fb q.1), fl (fb q.2)] 100)
     have B8 : Below w.heap.size w (w7.alloc (.cells #[fl (fb p.1), fl (fb p.2), fl (fb q.1), fl (fb q.2)] 100)) := B7.alloc B7.size _
     have Q8 : SlR (b10 + 1) b12 (w7.alloc (.cells #[fl (fb p.1), fl (fb p.2), fl (fb q.1), fl (fb q.2)] 100)) (.slice (some g5) l.length cp) l := Q7.keep fun j h1 h2 => hbA.block j (by omega)
     have W0 := cellAt V8 0
     have W1 := cellAt V8 1
     have W2 := cellAt V8 2
     have W3 := cellAt V8 3
     simp only [List.getElem?_toArray, List.getElem?_cons_zero, List.getElem?_cons_succ] at W0 W1 W2 W3
     obtain ⟨i26, hi, hz0, hz1, hz2⟩ := info_parts infoSA
     generalize w7.alloc (.cells #[fl (fb p.1), fl (fb p.2), fl (fb q.1), fl (fb q.2)] 100) = w8 at *
     generalize hbs : w7.heap.size = bs at *
     clear G7 R7 O2 B7 S7 Q7 hbA
     refine wp_region_K (b10 :: vs.ownBlock.toList) [.val (.pointer (some ⟨b10, 3, none⟩)), .val vs, .val (.pointer (some ⟨bs, 0, none⟩)), .val (.agg #[fl (fb p.1), fl (fb p.2)]), .val (.agg #[.int .i64 p.1, .int .i64 p.2]), .val (.pointer (some ⟨bs, 2, none⟩)), .val (.agg #[fl (fb q.1), fl (fb q.2)]), .val (.agg #[.int .i64 q.1, .int .i64 q.2]), .val (.agg #[.int .i64 p.1, .int .i64 p.2, .int .i64 q.1, .int .i64 q.2]),
       .slc 49 #[.int .i64 p.1, .int .i64 p.2, .int .i64 q.1, .int .i64 q.2], .app vs k xs b12 49 4 (k + 1) (xs ++ [.int .i64 p.1, .int .i64 p.2, .int .i64 q.1, .int .i64 q.2]), .val (.pointer (some ⟨b10, 3, none⟩)), .turnS b10 #[.int .i64 l.length, .int .i64 (nSeg true l), .slice (some g5) l.length cp, vs, .int .i64 (box l).1, .int .i64 (box l).2.1, .int .i64 (box l).2.2.1, .int .i64 (box l).2.2.2, .bool false, .bool bv, .bool cv, .bool cw, .bool bi] 3 72 51]
      [[.ini 10], [.frm 0 62, .til 12], [.ini 13], [.frm 2 64], [.frm 3 65], [.ini 13], [.frm 5 67], [.frm 6 68], [.frm 4 66, .frm 7 69], [.frm 8 70], [.frm 1 63, .frm 9 71, .til 10], [.ini 10], [.frm 11 73, .frm 10 72, .til 12]]
      mixed (by kernel_rfl) (by kernel_rfl) (allPre_of ⟨trivial, trivial, trivial, trivial, trivial, trivial, trivial, trivial, trivial, trivial, O3, trivial, G8, trivial⟩)
      ⟨OpOk.quiet rfl ?_, OpOk.quiet rfl ?_, OpOk.quiet rfl ?_, OpOk.quiet rfl ?_, OpOk.call rfl ?_, OpOk.quiet rfl ?_, OpOk.quiet rfl ?_, OpOk.call rfl ?_, OpOk.quiet rfl ?_, slc_run rfl ?_,
       OpOk.app (inf := i26) rfl rfl Tryz.underlying48 hi hz0 hz1 hz2 rfl (by decide) rfl (by intro u hu; simp at hu; rcases hu with rfl | rfl | rfl | rfl <;> rfl) (by unfold maxLen; omega) (by omega) (by omega) (fun _ hG => hG.size) (fun b hb => by have := (hfg b hb).2; omega)
        (fun b hb => ⟨row_still rfl, row_still rfl, row_still rfl, row_still rfl, row_still rfl, row_still rfl, row_still rfl, row_still rfl, row_still rfl, row_none rfl (fun h => (nomatch h)), row_self rfl, row_still rfl, row_turnS (by have := (hfg b hb).1; omega), trivial⟩)
        (fun b hb => oldFree_of ⟨.inr (fun h => (nomatch h)), .inr (fun h => (nomatch h)), .inr (fun h => (nomatch h)), .inr (fun h => (nomatch h)), .inr (fun h => (nomatch h)), .inr (fun h => (nomatch h)), .inr (fun h => (nomatch h)), .inr (fun h => (nomatch h)), .inr (fun h => (nomatch h)), .inr (fun h => (nomatch h)), .inl rfl, .inr (fun h => (nomatch h)), .inr (by have := (hfg b hb).1; simp [Ent.turnS]; omega), trivial⟩)
        ?_ (fun _ b _ hb h => Keep.setRow h (.inr (by simp [hb]))), OpOk.quiet rfl ?_,
       OpOk.turnS rfl rfl (lt_of_some G8) ⟨row_still rfl, row_still rfl, row_still rfl, row_still rfl, row_still rfl, row_still rfl, row_still rfl, row_still rfl, row_still rfl, row_none rfl (fun h => (nomatch h)), row_none rfl hnb, row_still rfl, row_self rfl, trivial⟩
        (oldFree_of ⟨.inr (fun h => (nomatch h)), .inr (fun h => (nomatch h)), .inr (fun h => (nomatch h)), .inr (fun h => (nomatch h)), .inr (fun h => (nomatch h)), .inr (fun h => (nomatch h)), .inr (fun h => (nomatch h)), .inr (fun h => (nomatch h)), .inr (fun h => (nomatch h)), .inr (fun h => (nomatch h)), .inr hnb, .inr (fun h => (nomatch h)), .inl rfl, trivial⟩)
        (by kernel_rfl) (by simp) ?_ (fun _ _ h => Keep.setRow h (.inr (by simp))), trivial⟩ ?_
     ·intro a u _ hf
      simp [facts, Need.fact, Act.eval] at hf
      go_simp
     ·intro a u _ hf
      obtain ⟨⟨_, _, f1⟩, f2, -⟩ := hf
      have f1' : a.eval (.tmp 62) = .pointer (some ⟨b10, 3, none⟩) := f1
      have c11 := cellAt (show u.heap[b10]? = some (.cells #[.int .i64 l.length, .int .i64 (nSeg true l), .slice (some g5) l.length cp, vs, .int .i64 (box l).1, .int .i64 (box l).2.1, .int .i64 (box l).2.2.1, .int .i64 (box l).2.2.2, .bool false, .bool bv, .bool cv, .bool cw, .bool bi] 51 (0, 0)) from f2) 3
      simp only [List.getElem?_toArray, List.getElem?_cons_zero, List.getElem?_cons_succ] at c11
      clear f1 f2
      simp [Act.eval] at f1'
      go_simp
     ·intro a u _ hf
      simp [facts, Need.fact, Act.eval] at hf
      go_simp
     ·intro a u hG hf
      simp [facts, Need.fact, Ent.val, Act.eval] at hf
      have w0' := (hG.cell (p := ⟨bs, 0, none⟩) (lt_of_some V8) hns).trans W0
      have w1' := (hG.cell (p := ⟨bs, 1, none⟩) (lt_of_some V8) hns).trans W1
      go_simp
     ·intro a u _ hf
      simp [facts, Need.fact, Ent.val, Act.eval] at hf
      refine ⟨_, _, by go_simp, (from_c (fb_rep p.1 (by omega)) (fb_rep p.2 (by omega)) _).mono ?_⟩
      rintro e w' ⟨rfl, hb⟩
      exact ⟨_, rfl, hb, rfl⟩
     ·intro a u _ hf
      simp [facts, Need.fact, Act.eval] at hf
      go_simp
     ·intro a u hG hf
      simp [facts, Need.fact, Ent.val, Act.eval] at hf
      have w0' := (hG.cell (p := ⟨bs, 2, none⟩) (lt_of_some V8) hns).trans W2
      have w1' := (hG.cell (p := ⟨bs, 3, none⟩) (lt_of_some V8) hns).trans W3
      go_simp
     ·intro a u _ hf
      simp [facts, Need.fact, Ent.val, Act.eval] at hf
      refine ⟨_, _, by go_simp, (from_c (fb_rep q.1 (by omega)) (fb_rep q.2 (by omega)) _).mono ?_⟩
      rintro e w' ⟨rfl, hb⟩
      exact ⟨_, rfl, hb, rfl⟩
     ·intro a u _ hf
      simp [facts, Need.fact, Ent.val, Act.eval] at hf
      go_simp
     ·intro a u _ hf
      simp [facts, Need.fact, Ent.val, Act.eval] at hf
      go_simp
     ·intro a u _ hf
      obtain ⟨⟨_, _, f1⟩, ⟨_, _, b, f2, _, _, f3⟩, f4, -⟩ := hf
      exact ⟨f1, f4, ⟨b, 0, none⟩, 1, f2, row_cells f3⟩
     ·intro a u _ hf
      simp [facts, Need.fact, Act.eval] at hf
      go_simp
     ·intro a u _ hf
      obtain ⟨⟨_, _, f1⟩, ⟨_, _, f2, f5⟩, f4, -⟩ := hf
      exact ⟨f1, own_one f2, f4⟩
     ·intro uu l' h wc hK hE hI hD
      obtain ⟨v0, v1, v2, v3, v4, v5, v6, v7, v8, ⟨b6, v9, -, -, -⟩, ⟨o7, -⟩, v11, e9, -⟩ := hE
      replace v0 : uu 0 = .pointer (some ⟨b10, 3, none⟩) := v0
      replace v1 : uu 1 = vs := v1
      replace v2 : uu 2 = .pointer (some ⟨bs, 0, none⟩) := v2
      replace v3 : uu 3 = .agg #[fl (fb p.1), fl (fb p.2)] := v3
      replace v4 : uu 4 = .agg #[.int .i64 p.1, .int .i64 p.2] := v4
      replace v5 : uu 5 = .pointer (some ⟨bs, 2, none⟩) := v5
      replace v6 : uu 6 = .agg #[fl (fb q.1), fl (fb q.2)] := v6
      replace v7 : uu 7 = .agg #[.int .i64 q.1, .int .i64 q.2] := v7
      replace v8 : uu 8 = .agg #[.int .i64 p.1, .int .i64 p.2, .int .i64 q.1, .int .i64 q.2] := v8
      replace v11 : uu 11 = .pointer (some ⟨b10, 3, none⟩) := v11
      simp [Ent.turnS, allPut, Act.put, Act.eval, Array.setIfInBounds] at e9
      have R' := (hK.block w.heap.size (lt_of_some R8) hnr).trans R8
      have S' := S8.keep fun j h1 h2 h3 => hK.block j h3 (hnS j h2)
      have B' := Keep.belowX (B := w.heap.size) hK B8 B8.size (by intro x hx; simp at hx; rcases hx with hx | hx; omega; have := (hfg _ hx).1; omega)
      have Z' : b12 ≤ wc.heap.size := Nat.le_trans (by omega) hK.size
      have Q' : SlR (b10 + 1) b12 wc (.slice (some g5) l.length cp) l := Q8.keep fun j h1 h2 => hK.block j (by omega) (hnq j h1 h2)
      simp only [allPut, Act.put, v0, v1, v2, v3, v4, v5, v6, v7, v8, v9, v11]
      generalize uu 10 = v10 at *
      clear v0 v1 v2 v3 v4 v5 v6 v7 v8 v9 v11 hK hI hD G8 R8 S8 O3 B8 Z7 Q8 hfg hnb hnr hnS hns hnq W0 W1 W2 W3
      go_wp2
      go_roundw
      case rel => exact ⟨k + 1, by omega, by go_num, v10, _, o7, e9, R', S', B', Z', Q'⟩
      case measure => simp [intOf]; omega
    ·have hk6 : k = nSeg true l := by omega
     subst hk6
     obtain ⟨B9, cB, rfl⟩ := own_slc O1
     have st := (((⟨fun i x h => by simp at h, B6⟩ : Blk w w6 []).add R6).add G6)
     have hne : w.heap.size ≠ b10 := by omega
     have hns := nSeg_le true l
     have hnl : ¬ (nSeg true l : Int) < (nSeg true l : Int) := by omega
     have x0 := st.cell 0 rfl 0
     have d0 := st.cell 1 rfl 0
     have x1 := st.cell 0 rfl 1
     have d1 := st.cell 1 rfl 1
     have x2 := st.cell 0 rfl 2
     have d2 := st.cell 1 rfl 2
     have x3 := st.cell 0 rfl 3
     have d3 := st.cell 1 rfl 3
     have x4 := st.cell 0 rfl 4
     have d4 := st.cell 1 rfl 4
     have x5 := st.cell 0 rfl 5
     have d5 := st.cell 1 rfl 5
     have x6 := st.cell 0 rfl 6
     have d6 := st.cell 1 rfl 6
     have x7 := st.cell 0 rfl 7
     have d7 := st.cell 1 rfl 7
     have x8 := st.cell 0 rfl 8
     have d8 := st.cell 1 rfl 8
     have x9 := st.cell 0 rfl 9
     have d9 := st.cell 1 rfl 9
     have x10 := st.cell 0 rfl 10
     have d10 := st.cell 1 rfl 10
     have x11 := st.cell 0 rfl 11
     have d11 := st.cell 1 rfl 11
     have x12 := st.cell 0 rfl 12
     have d12 := st.cell 1 rfl 12
     have xf := fun o => st.frozen 0 rfl o
     have df := fun o => st.frozen 1 rfl o
     simp only [List.getElem?_toArray, List.getElem?_cons_zero, List.getElem?_cons_succ] at x0 d0 x1 d1 x2 d2 x3 d3 x4 d4 x5 d5 x6 d6 x7 d7 x8 d8 x9 d9 x10 d10 x11 d11 x12 d12
     clear G6 R6 S6 O1
     go_wp2
     refine bodyPost_ret (v := .agg #[.int .i64 l.length, .int .i64 (nSeg true l), .slice (some g5) l.length cp, .slice B9 (nSeg true l) cB, .int .i64 (box l).1, .int .i64 (box l).2.1, .int .i64 (box l).2.2.1, .int .i64 (box l).2.2.2, .bool false, .bool bv, .bool cv, .bool cw, .bool bi]) (by simp [results, Tryz.results23, go_sem, d0, d1, d2, d3, d4, d5, d6, d7, d8, d9, d10, d11, d12]) rfl ⟨some g5, cp, B9, nSeg true l, cB, bv, bi, by subst ecw ecv; rfl, ?_, ?_⟩
     ·refine SlR.wide (SlR.keep (fun j h1 h2 => ?_) Q6) (by omega) (by simp; omega)
      iterate 13 refine (Below.heap_setCell _ _ _ _ (by show j ≠ w.heap.size; omega)).trans ?_
      rfl
     ·iterate 13 refine Below.setCell ?_ (by show w.heap.size ≤ w.heap.size; exact Nat.le_refl _) _
      exact st.hb
end Go.Proofs.YtbfanhdofopnnaaGreat
