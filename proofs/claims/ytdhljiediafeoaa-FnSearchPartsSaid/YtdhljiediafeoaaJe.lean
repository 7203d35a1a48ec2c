import Derived.Test.YtdhljiediafeoaaJb
set_option linter.unusedSimpArgs false
set_option linter.unusedVariables false
/-! A region that draws its order and ends in a call that changes what was there: all else in it only reads or adds. -/
namespace JR
open Go Go.RowKit
/-- all other operations are known by their values alone -/
def stillL (i : Nat) : Nat → List Ent → Prop
  | _, [] => True
  | k, e :: es => (k = i ∨ (e.still = true ∧ ∀ w w', e.pre w → e.pre w')) ∧ stillL i (k + 1) es
theorem stillL_get {i : Nat} : ∀ (es : List Ent) (k : Nat), stillL i k es → ∀ (j : Nat) (e : Ent), es[j]? = some e → k + j ≠ i → e.still = true ∧ ∀ w w', e.pre w → e.pre w' := by
  intro es
  induction es with
  | nil => intro k _ j e h; simp at h
  | cons x es ih =>
    intro k h j e he hj
    cases j with
    | zero => simp at he; subst he; exact h.1.elim (fun h => absurd h (by omega)) id
    | succ j => exact ih (k + 1) h.2 j e (by simpa using he) (by omega)
section
variable {P : Program} {ops : Array Oper} {Q : Exit → Act → World → Prop} {plan : List Ent} {a0 : Act} {i : Nat} {o : Oper} {ns : List Need}
/-- the world in such a region: nothing of w0 was changed yet, or the call has come -/
def Was (w0 : World) (Done : World → Prop) (w : World) : Prop := Below w0.heap.size w0 w ∨ (w0.heap.size ≤ w.heap.size ∧ Done w)
/-- the call that comes last -/
theorem OpOk.last {w0 : World} {Done : World → Prop} {b : Nat} {cs0 : Array Value} {T : TypeId} (hg : o.guard = none)
    (hne : ∀ w, Done w → ∃ cs, cs ≠ cs0 ∧ w.heap[b]? = some (.cells cs T (0, 0)))
    (hst : stillL i 0 plan)
    (htil : ∀ a w, facts plan a0 a w ns → w.heap[b]? = some (.cells cs0 T (0, 0)))
    (h : ∀ a w, Below w0.heap.size w0 w → facts plan a0 a w ns → ∃ f args, (execOp a.eval o).run P w = .ok (.enter f args) w ∧
      Calls P f args w fun x w' => ∃ v, x = .returned v ∧ w.heap.size ≤ w'.heap.size ∧ Done w') :
    OpOk P ops Q (Was w0 Done) w0.heap.size plan a0 i o (.turn b cs0 (· ≠ cs0) T) ns := by
  intro a w hG hf
  refine ⟨fun _ => ?_, fun h => by simp [Region.wanted, hg] at h⟩
  have hB : Below w0.heap.size w0 w := by
    rcases hG with hG | ⟨-, hD⟩
    · exact hG
    · obtain ⟨cs, h1, h2⟩ := hne w hD
      have h3 := htil a w hf
      rw [h2] at h3
      cases h3
      exact absurd rfl h1
  obtain ⟨f, args, h1, h2⟩ := h a w hB hf
  unfold Oper.wp
  rw [h1, Oper.upon_enter]
  refine h2.mono fun x w' hx => ?_
  obtain ⟨v, rfl, hs, hD⟩ := hx
  refine ⟨v, rfl, hne w' hD, .inr fun l h _ _ => ⟨hs, .inr ⟨Nat.le_trans hB.size hs, hD⟩, fun j e he hj hp => ?_, fun j e he hj hs' => ?_⟩⟩
  · exact (stillL_get plan 0 hst j e he (by omega)).2 w w' hp
  · rw [(stillL_get plan 0 hst j e he (by omega)).1] at hs'; cases hs'
end
/-- the law -/
theorem wp_region_W {P : Program} {ops : Array Oper} {Q : Exit → Act → World → Prop} {a0 : Act} {id : Nat} {w0 : World} (Done : World → Prop) (plan : List Ent) (ns : List (List Need)) (hm : P.follows .mixedOrders = true)
    (hchk : (backL 0 ops.toList && uniqL a0.tmps.size ops.toList && needsOk ops.toList 0 ops.toList ns) = true) (hslots : slotsL ops.toList ops.toList plan = true)
    (hpre : ∀ e ∈ plan, e.pre w0.drew) (hDE : ∀ w w', Ext w w' → Done w → Done w')
    (hok : opsOk P ops Q (Was w0 Done) w0.heap.size plan a0 0 ops.toList plan ns)
    (hend : ∀ u l h w, Was w0 Done w → allE u l h (allPut u 0 ops.toList a0) w 0 plan → Q .normal (allPut u 0 ops.toList a0) w) :
    (Code.region id ops true).wp P Q a0 w0 :=
  wp_region_J (G := Was w0 Done) (B0 := w0.heap.size) hm hchk hslots hpre (.inl (Below.refl _ w0).drew)
    (fun _ _ e h => h.elim (fun h => .inl (h.trans (e.mono h.size))) (fun h => .inr ⟨Nat.le_trans h.1 e.size, hDE _ _ e h.2⟩)) (fun _ h => h.elim (fun h => h.size) (fun h => h.1)) hok (fun u l h w hG hE _ _ => hend u l h w hG hE)
end JR
