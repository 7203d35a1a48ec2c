import Derived.Test.YtbfanhdofopnnaaGreatJb
import Derived.Test.YtbfanhdofopnnaaGreatJc
set_option linter.unusedSimpArgs false
set_option linter.unusedVariables false
/-! Values that only a slot knows: within a region that draws its order. -/
namespace JR
open Go Go.RowKit
/-- what F makes of slot t's value -/
def Ent.fnS (t : Nat) (F : Value → Value) : Ent where
  E := fun v _ _ a _ => v = F (a.eval (.tmp t))
  sl := [t]
  old := []
  still := false
  news := false
  hsl := fun _ _ _ _ _ _ h h1 => by rw [← h t (by simp)]; exact h1
  hext := fun _ _ _ _ _ _ _ _ h => h
  hstill := fun h => Bool.noConfusion h
  hnews := fun h => Bool.noConfusion h
  hrow := fun _ _ _ _ _ _ _ _ _ _ h => h
  hpext := fun _ _ _ h => h
  hprow := fun _ _ _ _ h => h
/-- a slice of one new block of slot t's value -/
def Ent.slcS (T : TypeId) (t : Nat) : Ent where
  E := fun v l h a w => ∃ b, v = .slice (some ⟨b, 0, none⟩) 1 1 ∧ l ≤ b ∧ b < h ∧ w.heap[b]? = some (.cells #[a.eval (.tmp t)] T (0, 0))
  sl := [t]
  old := []
  still := false
  news := false
  hsl := fun _ _ _ _ _ _ h ⟨b, h1, h2, h3, h4⟩ => ⟨b, h1, h2, h3, by rw [← h t (by simp)]; exact h4⟩
  hext := fun _ _ _ _ _ _ hs e ⟨b, h1, h2, h3, h4⟩ => ⟨b, h1, h2, h3, (e.block b (by omega)).trans h4⟩
  hstill := fun h => Bool.noConfusion h
  hnews := fun h => Bool.noConfusion h
  hrow := fun _ _ _ _ _ _ _ hb _ _ ⟨b', h1, h2, h3, h4⟩ => ⟨b', h1, h2, h3, (setRow_other (by omega)).trans h4⟩
  hpext := fun _ _ _ h => h
  hprow := fun _ _ _ _ h => h
/-- the slice v0 until this operation comes, and then one with slot t's value at its end -/
def Ent.appS (v0 : Value) (n0 : Nat) (xs0 : List Value) (base : Nat) (T : TypeId) (t : Nat) : Ent where
  E := fun v l h a w => w.ownsRow base T 1 v (n0 + 1) (xs0 ++ [a.eval (.tmp t)]) ∧ ∃ g, v.ownBlock = some g ∧ (v0.ownBlock = some g ∨ (l ≤ g ∧ g < h))
  sl := [t]
  old := v0.ownBlock.toList
  still := false
  news := false
  pre := fun w => w.ownsRow base T 1 v0 n0 xs0
  hsl := fun _ _ _ _ _ _ h ⟨h1, h2⟩ => ⟨by rw [← h t (by simp)]; exact h1, h2⟩
  hext := fun v l h' a w w' hs e ⟨h1, g, h2, h3⟩ => ⟨h1.kept (Ext.grown e none) (.inr (by rw [h2]; simp)), g, h2, h3⟩
  hstill := fun h => Bool.noConfusion h
  hnews := fun h => Bool.noConfusion h
  hrow := fun v l h' a w b cells hb _ ho ⟨h1, g, h2, h3⟩ => ⟨h1.kept (grown_setRow w b cells) (.inr (by
    rw [h2]
    intro he
    have hgb : g = b := by simpa using he
    subst hgb
    rcases h3 with h3 | h3
    · exact ho (by rw [h3]; simp)
    · omega)), g, h2, h3⟩
  hpext := fun w w' e h => by
    cases hv : v0.ownBlock with
    | none => exact h.kept (Ext.grown e none) (.inl hv)
    | some g => exact h.kept (Ext.grown e none) (.inr (by rw [hv]; simp))
  hprow := fun w b cells ho h => by
    cases hv : v0.ownBlock with
    | none => exact h.kept (grown_setRow w b cells) (.inl hv)
    | some g =>
      refine h.kept (grown_setRow w b cells) (.inr ?_)
      rw [hv]
      intro he
      have hgb : g = b := by simpa using he
      exact ho (by rw [hv, hgb]; simp)
/-- the block behind slot t holds what F makes of slot s's value -/
def Ent.filledS (t s : Nat) (F : Value → Array Value) (T : TypeId) : Ent where
  E := fun _ _ _ a w => ∃ b, a.eval (.tmp t) = .pointer (some ⟨b, 0, none⟩) ∧ w.heap[b]? = some (.cells (F (a.eval (.tmp s))) T (0, 0))
  sl := [t, s]
  old := []
  still := false
  news := false
  hsl := fun _ _ _ _ _ _ h ⟨b, h1, h2⟩ => ⟨b, by rw [← h t (by simp)]; exact h1, by rw [← h s (by simp)]; exact h2⟩
  hext := fun _ _ _ _ _ _ _ e ⟨b, h1, h2⟩ => ⟨b, h1, (e.block b (lt_of_some h2)).trans h2⟩
  hstill := fun h => Bool.noConfusion h
  hnews := fun h => Bool.noConfusion h
  hrow := fun _ _ _ _ _ _ _ _ hn _ ⟨b', h1, h2⟩ => ⟨b', h1, (setRow_other (fun he => hn t (by simp) (by rw [← he]; exact h1))).trans h2⟩
  hpext := fun _ _ _ h => h
  hprow := fun _ _ _ _ h => h
theorem row_slcS {b i k t : Nat} {T : TypeId} : k ≠ i → (Ent.slcS T t).still = false → ∀ v l h a w cells, (b < l ∨ h ≤ b) → (Ent.slcS T t).E v l h a w → (Ent.slcS T t).E v l h a (w.setRow b cells) :=
  fun _ _ _ _ _ _ _ _ hb ⟨b', h1, h2, h3, h4⟩ => ⟨b', h1, h2, h3, (setRow_other (by omega)).trans h4⟩
theorem row_appS {b i k t n0 base : Nat} {v0 : Value} {xs0 : List Value} {T : TypeId} (hn : b ∉ v0.ownBlock.toList) : k ≠ i → (Ent.appS v0 n0 xs0 base T t).still = false → ∀ v l h a w cells, (b < l ∨ h ≤ b) → (Ent.appS v0 n0 xs0 base T t).E v l h a w → (Ent.appS v0 n0 xs0 base T t).E v l h a (w.setRow b cells) :=
  fun _ _ v l h a w cells hb ⟨h1, g, h2, h3⟩ => ⟨h1.kept (grown_setRow w b cells) (.inr (by
    rw [h2]
    intro he
    have hgb : g = b := by simpa using he
    subst hgb
    rcases h3 with h3 | h3
    · exact hn (by rw [h3]; simp)
    · omega)), g, h2, h3⟩
section
variable {P : Program} {ops : Array Oper} {Q : Exit → Act → World → Prop} {G : World → Prop} {B0 : Nat} {plan : List Ent} {a0 : Act} {i : Nat} {o : Oper} {ns : List Need}
theorem OpOk.fnS {t : Nat} {F : Value → Value} (hg : o.guard = none) (h : ∀ a w, G w → facts plan a0 a w ns → (execOp a.eval o).run P w = .ok (.value (F (a.eval (.tmp t)))) w) :
    OpOk P ops Q G B0 plan a0 i o (.fnS t F) ns :=
  OpOk.adds hg fun a w hG hf => ⟨_, _, h a w hG hf, Ext.refl _, rfl⟩
theorem OpOk.slcS {T : TypeId} {t : Nat} (hg : o.guard = none) (h : ∀ a w, G w → facts plan a0 a w ns → (execOp a.eval o).run P w = .ok (.value (.slice (some ⟨w.heap.size, 0, none⟩) 1 1)) (w.alloc (.cells #[a.eval (.tmp t)] T))) :
    OpOk P ops Q G B0 plan a0 i o (.slcS T t) ns :=
  OpOk.adds hg fun a w hG hf => ⟨_, _, h a w hG hf, Ext.alloc _ _, w.heap.size, rfl, Nat.le_refl _, by simp, alloc_get _ _⟩
theorem OpOk.appS {s x : Operand} {t e : TypeId} {inf : TypeInfo} {z : Value} {bytes base n tv : Nat} {v0 : Value} {xs : List Value} (hg : o.guard = none)
    (ho : o.op = .call { callee := .builtin .append, args := #[s, x], argTypes := #[t, t] })
    (ht : P.underlying t = some (.slice e)) (hi : P.info? e = some inf) (hz : inf.zero = some z)
    (hsize : inf.size = 1) (hby : inf.bytes = bytes) (hzs : z.cells.size = 1)
    (h63 : n + 1 ≤ maxLen) (hbytes : (n + 1) * bytes ≤ 140737488355328)
    (hbase : base ≤ B0) (hGB : ∀ w, G w → B0 ≤ w.heap.size)
    (hlt : ∀ b, v0.ownBlock = some b → b < B0) (hrows : ∀ b, v0.ownBlock = some b → rowsOk b i 0 plan) (hpres : ∀ b, v0.ownBlock = some b → ∀ j en, plan[j]? = some en → j ≠ i → b ∉ en.old)
    (hf : ∀ a w, G w → facts plan a0 a w ns → a.eval s = v0 ∧ w.ownsRow base e 1 v0 n xs ∧ (a.eval (.tmp tv)).oneCell' = true ∧ ∃ b, a.eval x = .slice (some ⟨b, 0, none⟩) 1 1 ∧ w.heap[b]? = some (.cells #[a.eval (.tmp tv)] e (0, 0)))
    (hGs : ∀ w b cs, v0.ownBlock = some b → G w → G (w.setRow b cs)) :
    OpOk P ops Q G B0 plan a0 i o (.appS v0 n xs base e tv) ns := by
  intro a w hG hff
  refine ⟨fun _ => ?_, fun h => by simp [Region.wanted, hg] at h⟩
  obtain ⟨hs, hown, hone, bx, hx, hnews0⟩ := hf a w hG hff
  have hnews : ∀ j u, [a.eval (.tmp tv)][j]? = some u → w.cell? ((⟨bx, 0, none⟩ : Addr).add j) = some u := row_cells hnews0
  obtain ⟨v', w', hr, hown', hcase⟩ := append_cases (P := P) w base t o.type e inf z 1 bytes ht hi hz hsize hby hzs (by decide) v0 n xs hown ⟨bx, 0, none⟩ 1 [a.eval (.tmp tv)] rfl hnews (by intro u hu; simp at hu; subst hu; exact hone) h63 hbytes (Nat.le_trans hbase (hGB w hG))
  unfold Oper.wp execOp
  simp only [ho, resolve, invoke, builtin, Sem.run_bind, Sem.run_pure, Result.andThen_ok, List.map_toArray, List.map_cons, List.map_nil, hs, hx, hr]
  refine ⟨v', rfl, ?_, ?_⟩
  · refine ⟨hown', ?_⟩
    rcases hcase with ⟨_, b, e1, e2, e3⟩ | ⟨g, cells, e1, e2, rfl⟩
    · exact ⟨b, e1, .inr ⟨e2, e3⟩⟩
    · exact ⟨g, e2, .inl e1⟩
  · rcases hcase with ⟨hext, _⟩ | ⟨g, cells, e1, e2, rfl⟩
    · exact .inl hext
    · refine .inr fun l h _ _ => ⟨by rw [setRow_size]; exact Nat.le_refl _, hGs _ _ _ e1 hG, fun j en hen hji hp => en.hprow _ _ _ (hpres g e1 j en hen hji) hp, fun j en hen hji hst v lj hj hlj hhj _ hE => ?_⟩
      exact rowsOk_get plan 0 (hrows g e1) j en hen (by simpa using hji) hst _ _ _ _ _ _ (.inl (Nat.lt_of_lt_of_le (hlt g e1) hlj)) hE
/-- a row that is written, of a new block, leaves what the others say -/
def rowsB (B0 i k : Nat) : Nat → List Ent → Prop
  | _, [] => True
  | j, e :: es => (j ≠ i → j ≠ k → ∀ v l h a w b cells, B0 ≤ b → (b < l ∨ h ≤ b) → e.E v l h a w → e.E v l h a (w.setRow b cells)) ∧ rowsB B0 i k (j + 1) es
theorem rowsB_get {B0 i k : Nat} : ∀ (l : List Ent) (m : Nat), rowsB B0 i k m l → ∀ j e, l[j]? = some e → m + j ≠ i → m + j ≠ k → ∀ v l h a w b cells, B0 ≤ b → (b < l ∨ h ≤ b) → e.E v l h a w → e.E v l h a (w.setRow b cells) := by
  intro l
  induction l with
  | nil => intro m _ j e he; simp at he
  | cons x l ih =>
    intro m h j e he hi hk
    cases j with
    | zero => simp at he; subst he; exact h.1 hi hk
    | succ j => exact ih (m + 1) h.2 j e (by simpa using he) (by rw [show m + 1 + j = m + (j + 1) from by omega]; exact hi) (by rw [show m + 1 + j = m + (j + 1) from by omega]; exact hk)
theorem rowB_none {B0 i k j : Nat} {e : Ent} (hs : e.sl = []) (ho : e.old = []) : j ≠ i → j ≠ k → ∀ v l h a w b cells, B0 ≤ b → (b < l ∨ h ≤ b) → e.E v l h a w → e.E v l h a (w.setRow b cells) :=
  fun _ _ v l h a w b cells _ hb he => e.hrow v l h a w b cells hb (fun t ht => by rw [hs] at ht; cases ht) (by rw [ho]; simp) he
theorem rowB_fnS {B0 i k j t : Nat} {F : Value → Value} : j ≠ i → j ≠ k → ∀ v l h a w b cells, B0 ≤ b → (b < l ∨ h ≤ b) → (Ent.fnS t F).E v l h a w → (Ent.fnS t F).E v l h a (w.setRow b cells) :=
  fun _ _ _ _ _ _ _ _ _ _ _ h => h
theorem rowB_self {B0 i k j : Nat} {e : Ent} (h : j = i ∨ j = k) : j ≠ i → j ≠ k → ∀ v l h a w b cells, B0 ≤ b → (b < l ∨ h ≤ b) → e.E v l h a w → e.E v l h a (w.setRow b cells) := fun h1 h2 => h.elim (absurd · h1) (absurd · h2)
/-- what F makes of slot s's value stored into a new block -/
theorem OpOk.fillS {t k n s : Nat} {T : TypeId} {F : Value → Array Value} (hg : o.guard = none)
    (hk : (dep o).contains k = true) (hdst : (ops.toList[k]?).bind (·.dst) = some t)
    (hmade : plan.getD k .any = .made T n) (hold : ∀ e ∈ plan, ∀ x ∈ e.old, x < B0) (hrows : rowsB B0 i k 0 plan)
    (hf0 : ∀ a w, facts plan a0 a w ns → ∃ l h, (plan.getD k .any).E (a.eval (.tmp t)) l h a w)
    (hrun : ∀ a w b old, G w → facts plan a0 a w ns → a.eval (.tmp t) = .pointer (some ⟨b, 0, none⟩) → w.heap[b]? = some (.cells old T (0, 0)) → old.size = n →
      (execOp a.eval o).run P w = .ok .skip (w.setRow b (F (a.eval (.tmp s)))) ∧ (F (a.eval (.tmp s))).size = n)
    (hGs : ∀ w b cs, G w → B0 ≤ b → G (w.setRow b cs)) :
    OpOk P ops Q G B0 plan a0 i o (.filledS t s F T) ns := by
  have hk' : k ∈ dep o := by simpa using hk
  intro a w hG hf
  refine ⟨fun _ => ?_, fun h => by simp [Region.wanted, hg] at h⟩
  obtain ⟨l0, h0, hm⟩ := hf0 a w hf
  rw [hmade] at hm
  obtain ⟨b, old, e1, e2, e3, e4, e5⟩ := hm
  obtain ⟨hr, hcs⟩ := hrun a w b old hG hf e1 e4 e5
  unfold Oper.wp
  rw [hr]
  refine ⟨undef, rfl, ⟨b, e1, setRow_same e4⟩, .inr fun l h hknow hapart => ?_⟩
  obtain ⟨kE, kh, kl⟩ := hknow k hk' t hdst
  rw [hmade] at kE
  obtain ⟨b', old', f1, f2, f3, f4, f5⟩ := kE
  have hbb : b' = b := by
    rw [e1] at f1
    simpa using f1.symm
  subst hbb
  refine ⟨by rw [setRow_size]; exact Nat.le_refl _, hGs _ _ _ hG (by omega), fun j e he _ hp => e.hprow _ _ _ (fun hmem => by have := hold e (List.mem_of_getElem? he) _ hmem; omega) hp, fun j e he hji _ v lj hj hlj hhj hks hE => ?_⟩
  by_cases hjk : j = k
  · subst hjk
    have : e = .made T n := by
      rw [← hmade, List.getD_eq_getElem?_getD, he]; rfl
    subst this
    obtain ⟨b2, cs2, g1, g2, g3, g4, g5⟩ := hE
    by_cases hb2 : b2 = b'
    · subst hb2
      exact ⟨b2, _, g1, g2, g3, setRow_same e4, hcs⟩
    · exact ⟨b2, cs2, g1, g2, g3, (setRow_other hb2).trans g4, g5⟩
  · exact rowsB_get plan 0 hrows j e he (by simpa using hji) (by simpa using hjk) _ _ _ _ _ _ _ (by omega) (by rcases (hks k hk').1 (Ne.symm hjk) with h3 | h3 <;> omega) hE
end
end JR
