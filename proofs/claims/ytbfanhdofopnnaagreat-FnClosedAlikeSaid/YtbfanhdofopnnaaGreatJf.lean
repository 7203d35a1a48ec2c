import Derived.Test.YtbfanhdofopnnaaGreatJd
set_option linter.unusedSimpArgs false
set_option linter.unusedVariables false
/-! A region that draws its order and ends in a call that changes what was there; what it leaves is known by the blocks it made. -/
namespace JR
open Go Go.RowKit
/-- what the last call leaves: R of the blocks that were there before the region and of those that the call made -/
def Ent.fin (w0 : World) (R : Nat → Nat → World → Prop) (hR : ∀ l h w w', w0.heap.size ≤ w.heap.size → h ≤ w.heap.size → (∀ k, (k < w0.heap.size ∨ (l ≤ k ∧ k < h)) → w'.heap[k]? = w.heap[k]?) → R l h w → R l h w') : Ent where
  E := fun _ l h _ w => w0.heap.size ≤ w.heap.size ∧ h ≤ w.heap.size ∧ R l h w
  sl := []
  old := List.range w0.heap.size
  still := false
  news := false
  pre := fun w => Below w0.heap.size w0 w
  hsl := fun _ _ _ _ _ _ _ h => h
  hext := fun v l h a w w' hs e ⟨h1, h2, h3⟩ => ⟨Nat.le_trans h1 e.size, Nat.le_trans h2 e.size, hR l h w w' h1 h2 (fun k hk => e.block k (by omega)) h3⟩
  hstill := fun h => Bool.noConfusion h
  hnews := fun h => Bool.noConfusion h
  hrow := fun v l h a w b cells hb _ ho ⟨h1, h2, h3⟩ => ⟨by rw [setRow_size]; exact h1, by rw [setRow_size]; exact h2, hR l h w _ h1 h2 (fun k hk => setRow_other (by
    intro he
    subst he
    rcases hk with hk | hk
    · exact ho (by simpa using hk)
    · omega)) h3⟩
  hpext := fun w w' e h => h.trans (e.mono h.size)
  hprow := fun w b cells ho h => h.trans ⟨rfl, rfl, rfl, by rw [setRow_size]; exact Nat.le_refl _, fun k hk => setRow_other (by intro he; subst he; exact ho (by simpa using hk))⟩
/-- what is known of the others survives the call -/
def stillL2 (w0 : World) (i : Nat) : Nat → List Ent → Prop
  | _, [] => True
  | k, e :: es => (k = i ∨ ((e.still = true ∨ ∀ v l h a w w', w0.heap.size ≤ l → h ≤ w.heap.size → (∀ k, w0.heap.size ≤ k → k < w.heap.size → w'.heap[k]? = w.heap[k]?) → e.E v l h a w → e.E v l h a w') ∧ ∀ w w', e.pre w → e.pre w')) ∧ stillL2 w0 i (k + 1) es
theorem stillL2_get {w0 : World} {i : Nat} : ∀ (es : List Ent) (k : Nat), stillL2 w0 i k es → ∀ (j : Nat) (e : Ent), es[j]? = some e → k + j ≠ i → (e.still = true ∨ ∀ v l h a w w', w0.heap.size ≤ l → h ≤ w.heap.size → (∀ k, w0.heap.size ≤ k → k < w.heap.size → w'.heap[k]? = w.heap[k]?) → e.E v l h a w → e.E v l h a w') ∧ ∀ w w', e.pre w → e.pre w' := by
  intro es
  induction es with
  | nil => intro k _ j e h; simp at h
  | cons x es ih =>
    intro k h j e he hj
    cases j with
    | zero => simp at he; subst he; exact h.1.elim (fun h => absurd h (by omega)) id
    | succ j => exact ih (k + 1) h.2 j e (by simpa using he) (by omega)
theorem still_val {w0 : World} (x : Value) : ((Ent.val x).still = true ∨ ∀ v l h a w w', w0.heap.size ≤ l → h ≤ w.heap.size → (∀ k, w0.heap.size ≤ k → k < w.heap.size → w'.heap[k]? = w.heap[k]?) → (Ent.val x).E v l h a w → (Ent.val x).E v l h a w') ∧ ∀ w w', (Ent.val x).pre w → (Ent.val x).pre w' := ⟨.inl rfl, fun _ _ h => h⟩
section
variable {P : Program} {ops : Array Oper} {Q : Exit → Act → World → Prop} {plan : List Ent} {a0 : Act} {i : Nat} {o : Oper} {ns : List Need}
theorem OpOk.fin {w0 : World} {X : List Nat} {R : Nat → Nat → World → Prop} {hR} (hg : o.guard = none)
    (hst : stillL2 w0 i 0 plan) (htil : ∀ a w, facts plan a0 a w ns → Below w0.heap.size w0 w)
    (h : ∀ a w, Below w0.heap.size w0 w → facts plan a0 a w ns → ∃ f args, (execOp a.eval o).run P w = .ok (.enter f args) w ∧
      Calls P f args w fun x w' => ∃ v, x = .returned v ∧ w.heap.size ≤ w'.heap.size ∧ Keep X w0 w' ∧ (∀ k, w0.heap.size ≤ k → k < w.heap.size → w'.heap[k]? = w.heap[k]?) ∧ R w.heap.size w'.heap.size w') :
    OpOk P ops Q (Keep X w0) w0.heap.size plan a0 i o (.fin w0 R hR) ns := by
  intro a w hG hf
  refine ⟨fun _ => ?_, fun h => by simp [Region.wanted, hg] at h⟩
  have hB := htil a w hf
  obtain ⟨f, args, h1, h2⟩ := h a w hB hf
  unfold Oper.wp
  rw [h1, Oper.upon_enter]
  refine h2.mono fun x w' hx => ?_
  obtain ⟨v, rfl, hs, hK, hN, hD⟩ := hx
  refine ⟨v, rfl, ⟨hK.size, Nat.le_refl _, hD⟩, .inr fun l h _ _ => ⟨hs, hK, fun j e he hj hp => ?_, fun j e he hj hs' v lj hj' hl hh _ hE => ?_⟩⟩
  · exact (stillL2_get plan 0 hst j e he (by omega)).2 w w' hp
  · rcases (stillL2_get plan 0 hst j e he (by omega)).1 with h | h
    · rw [h] at hs'; cases hs'
    · exact h v lj hj' a w w' hl hh hN hE
end
end JR
