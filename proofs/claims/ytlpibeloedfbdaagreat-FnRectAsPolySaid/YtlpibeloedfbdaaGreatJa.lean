import Derived.Test.YtlpibeloedfbdaaGreatJr
import Derived.Laws.AppendOwn
set_option linter.unusedSimpArgs false
set_option linter.unusedVariables false
/-! An append within a region that draws its order. -/
namespace JR
open Go Go.RowKit

theorem Ext.grown {w w' : World} (h : Ext w w') (row : Option Nat) : w.grownBy w' row := ⟨h.os, h.tape, h.output, h.size, fun k hk _ => h.block k hk⟩

theorem grown_setRow (w : World) (g : Nat) (cs : Array Value) : w.grownBy (w.setRow g cs) (some g) :=
  ⟨rfl, rfl, rfl, by rw [setRow_size]; exact Nat.le_refl _, fun k _ hk => setRow_other (fun he => hk (by rw [he]))⟩

theorem append_cases {P : Program} (w : World) (base : Nat) (t ty e : TypeId) (i : TypeInfo) (z : Value) (size bytes : Nat) (ht : P.underlying t = some (.slice e)) (hi : P.info? e = some i) (hz : i.zero = some z)
    (hsize : i.size = size) (hby : i.bytes = bytes) (hzs : z.cells.size = size) (hsz : 0 < size)
    (v : Value) (n : Nat) (xs : List Value) (hown : w.ownsRow base e size v n xs)
    (a : Addr) (c : Nat) (news : List Value) (hl : news.length = 1 * size) (hnews : ∀ j u, news[j]? = some u → w.cell? (a.add j) = some u) (h1 : ∀ u ∈ news, u.oneCell' = true)
    (h63 : n + 1 ≤ maxLen) (hbytes : (n + 1) * bytes ≤ 140737488355328) (hbase : base ≤ w.heap.size) :
    ∃ v' w', (Builtin.append_ #[t, t] ty #[v, .slice (some a) 1 c]).run P w = .ok v' w' ∧ w'.ownsRow base e size v' (n + 1) (xs ++ news) ∧
      ((Ext w w' ∧ ∃ b, v'.ownBlock = some b ∧ w.heap.size ≤ b ∧ b < w'.heap.size) ∨ (∃ g cells, v.ownBlock = some g ∧ v'.ownBlock = some g ∧ w' = w.setRow g cells)) := by
  obtain ⟨v', w', hr, hown', hgr, hnil⟩ := run_append_own (P := P) w base t ty e i z size bytes ht hi hz hsize hby hzs hsz v n xs hown a 1 c news hl hnews h1 h63 hbytes hbase
  refine ⟨v', w', hr, hown', ?_⟩
  have hl' : news.length = 1 * i.size := by rw [hsize]; exact hl
  have hb' : (n + 1) * i.bytes ≤ 140737488355328 := by rw [hby]; exact hbytes
  rcases hown.2 with ⟨rfl, rfl⟩ | ⟨g, cap, cur, rfl, hbg, hg, hnc, hcm, hcs, htake⟩
  · have h := run_append_nil (P := P) w t ty e i z ht hi hz a 1 c news hl' hnews (by omega) (by omega) (by omega)
    rw [hr] at h
    cases h
    exact .inl ⟨⟨rfl, rfl, rfl, by simp, fun k hk => heap_alloc_old w.drew _ k hk⟩, w.heap.size, rfl, Nat.le_refl _, by simp⟩
  · by_cases hroom : n + 1 ≤ cap
    · have h := run_append_room (P := P) w t ty e i ht hi g n cap cur hg a 1 c news hl' hnews h1 hroom (by rw [hl', hcs, hsize, ← Nat.add_mul]; exact Nat.mul_le_mul_right _ hroom)
      rw [hr] at h
      cases h
      exact .inr ⟨g, _, rfl, rfl, rfl⟩
    · have h := run_append_grow (P := P) w t ty e i z ht hi hz ⟨g, 0, none⟩ n cap xs (by rw [hsize]; exact hown.1) (hown.cells (g := g) rfl) a 1 c news hl' hnews (by omega) (by simp only [maxLen] at h63; omega) (growslice_fits (by omega) hb')
      rw [hr] at h
      cases h
      exact .inl ⟨⟨rfl, rfl, rfl, by simp, fun k hk => heap_alloc_old w.drew _ k hk⟩, w.heap.size, rfl, Nat.le_refl _, by simp⟩

/-- the slice v0 (of n0 elements, the cells xs0) until this operation comes, and then another one, in the same row or in a new one -/
def Ent.app (v0 : Value) (n0 : Nat) (xs0 : List Value) (base : Nat) (T : TypeId) (size n : Nat) (xs : List Value) : Ent where
  E := fun v l h _ w => w.ownsRow base T size v n xs ∧ ∃ g, v.ownBlock = some g ∧ (v0.ownBlock = some g ∨ (l ≤ g ∧ g < h))
  sl := []
  old := v0.ownBlock.toList
  still := false
  news := false
  pre := fun w => w.ownsRow base T size v0 n0 xs0
  hsl := fun _ _ _ _ _ _ _ h => h
  hext := fun v l h' _ w w' hs e ⟨h1, g, h2, h3⟩ => ⟨h1.kept (Ext.grown e none) (.inr (by rw [h2]; simp)), g, h2, h3⟩
  hstill := fun h => Bool.noConfusion h
  hnews := fun h => Bool.noConfusion h
  hrow := fun v l h' _ w b cells hb _ ho ⟨h1, g, h2, h3⟩ => ⟨h1.kept (grown_setRow w b cells) (.inr (by
    rw [h2]
    intro he
    have hgb : g = b := by simpa using he
    subst hgb
    rcases h3 with h3 | h3
    · exact ho (by rw [h3]; simp)
    · omega)), g, h2, h3⟩
  hpext := fun w w' e h => by
    cases hv : v0.ownBlock with
    | none => exact h.kept (Ext.grown e none) (.inl hv)
    | some g => exact h.kept (Ext.grown e none) (.inr (by rw [hv]; simp))
  hprow := fun w b cells ho h => by
    cases hv : v0.ownBlock with
    | none => exact h.kept (grown_setRow w b cells) (.inl hv)
    | some g =>
      refine h.kept (grown_setRow w b cells) (.inr ?_)
      rw [hv]
      intro he
      have hgb : g = b := by simpa using he
      exact ho (by rw [hv, hgb]; simp)

/-- the block b holds cs0 until this operation comes, and then cs0 with slot t's value in one cell -/
def Ent.turnS (b : Nat) (cs0 : Array Value) (off t : Nat) (T : TypeId) : Ent where
  E := fun _ _ _ a w => w.heap[b]? = some (.cells (cs0.setIfInBounds off (a.eval (.tmp t))) T (0, 0))
  sl := [t]
  old := [b]
  still := false
  news := false
  pre := fun w => w.heap[b]? = some (.cells cs0 T (0, 0))
  hsl := fun _ _ _ _ _ _ h h1 => by
    have := h t (by simp)
    simp only [← this]
    exact h1
  hext := fun _ _ _ _ _ _ _ e h => (e.block b (lt_of_some h)).trans h
  hstill := fun h => Bool.noConfusion h
  hnews := fun h => Bool.noConfusion h
  hrow := fun _ _ _ _ _ _ _ _ _ ho h => (setRow_other (fun he => ho (by simp [he]))).trans h
  hpext := fun _ _ e h => (e.block b (lt_of_some h)).trans h
  hprow := fun _ _ _ ho h => (setRow_other (fun he => ho (by simp [he]))).trans h

/-- a row that is written leaves what the others say -/
def rowsOk (b i : Nat) : Nat → List Ent → Prop
  | _, [] => True
  | k, e :: es => (k ≠ i → e.still = false → ∀ v l h a w cells, (b < l ∨ h ≤ b) → e.E v l h a w → e.E v l h a (w.setRow b cells)) ∧ rowsOk b i (k + 1) es

theorem rowsOk_get {b i : Nat} : ∀ (l : List Ent) (k : Nat), rowsOk b i k l → ∀ j e, l[j]? = some e → k + j ≠ i → e.still = false → ∀ v l h a w cells, (b < l ∨ h ≤ b) → e.E v l h a w → e.E v l h a (w.setRow b cells) := by
  intro l
  induction l with
  | nil => intro k _ j e he; simp at he
  | cons x l ih =>
    intro k h j e he hk
    cases j with
    | zero => simp at he; subst he; exact h.1 hk
    | succ j => exact ih (k + 1) h.2 j e (by simpa using he) (by rw [show k + 1 + j = k + (j + 1) from by omega]; exact hk)

theorem row_none {b i k : Nat} {e : Ent} (hs : e.sl = []) (ho : b ∉ e.old) : k ≠ i → e.still = false → ∀ v l h a w cells, (b < l ∨ h ≤ b) → e.E v l h a w → e.E v l h a (w.setRow b cells) :=
  fun _ _ v l h a w cells hb he => e.hrow v l h a w b cells hb (fun t ht => by rw [hs] at ht; cases ht) ho he

theorem row_still {b i k : Nat} {e : Ent} (hs : e.still = true) : k ≠ i → e.still = false → ∀ v l h a w cells, (b < l ∨ h ≤ b) → e.E v l h a w → e.E v l h a (w.setRow b cells) :=
  fun _ h => by rw [hs] at h; cases h

theorem row_turnS {b i k b' : Nat} {cs0 : Array Value} {off t : Nat} {T : TypeId} (hne : b' ≠ b) : k ≠ i → (Ent.turnS b' cs0 off t T).still = false → ∀ v l h a w cells, (b < l ∨ h ≤ b) → (Ent.turnS b' cs0 off t T).E v l h a w → (Ent.turnS b' cs0 off t T).E v l h a (w.setRow b cells) :=
  fun _ _ _ _ _ _ _ _ _ h => (setRow_other hne).trans h

theorem row_self {b i k : Nat} {e : Ent} (hk : k = i) : k ≠ i → e.still = false → ∀ v l h a w cells, (b < l ∨ h ≤ b) → e.E v l h a w → e.E v l h a (w.setRow b cells) := fun h => absurd hk h

section
variable {P : Program} {ops : Array Oper} {Q : Exit → Act → World → Prop} {G : World → Prop} {B0 : Nat} {plan : List Ent} {a0 : Act} {i : Nat} {o : Oper} {ns : List Need}

/-- one element appended -/
theorem OpOk.app {s x : Operand} {t e : TypeId} {inf : TypeInfo} {z : Value} {size bytes base n : Nat} {v0 : Value} {xs news : List Value} (hg : o.guard = none)
    (ho : o.op = .call { callee := .builtin .append, args := #[s, x], argTypes := #[t, t] })
    (ht : P.underlying t = some (.slice e)) (hi : P.info? e = some inf) (hz : inf.zero = some z)
    (hsize : inf.size = size) (hby : inf.bytes = bytes) (hzs : z.cells.size = size) (hsz : 0 < size)
    (hl : news.length = 1 * size) (h1 : ∀ u ∈ news, u.oneCell' = true) (h63 : n + 1 ≤ maxLen) (hbytes : (n + 1) * bytes ≤ 140737488355328)
    (hbase : base ≤ B0) (hGB : ∀ w, G w → B0 ≤ w.heap.size)
    (hlt : ∀ b, v0.ownBlock = some b → b < B0) (hrows : ∀ b, v0.ownBlock = some b → rowsOk b i 0 plan) (hpres : ∀ b, v0.ownBlock = some b → ∀ j en, plan[j]? = some en → j ≠ i → b ∉ en.old)
    (hf : ∀ a w, G w → facts plan a0 a w ns → a.eval s = v0 ∧ w.ownsRow base e size v0 n xs ∧ ∃ ad c, a.eval x = .slice (some ad) 1 c ∧ ∀ j u, news[j]? = some u → w.cell? (ad.add j) = some u)
    (hGs : ∀ w b cs, v0.ownBlock = some b → G w → G (w.setRow b cs)) :
    OpOk P ops Q G B0 plan a0 i o (.app v0 n xs base e size (n + 1) (xs ++ news)) ns := by
  intro a w hG hff
  refine ⟨fun _ => ?_, fun h => by simp [Region.wanted, hg] at h⟩
  obtain ⟨hs, hown, ad, c, hx, hnews⟩ := hf a w hG hff
  obtain ⟨v', w', hr, hown', hcase⟩ := append_cases (P := P) w base t o.type e inf z size bytes ht hi hz hsize hby hzs hsz v0 n xs hown ad c news hl hnews h1 h63 hbytes (Nat.le_trans hbase (hGB w hG))
  unfold Oper.wp execOp
  simp only [ho, resolve, invoke, builtin, Sem.run_bind, Sem.run_pure, Result.andThen_ok, List.map_toArray, List.map_cons, List.map_nil, hs, hx, hr]
  refine ⟨v', rfl, ?_, ?_⟩
  · refine ⟨hown', ?_⟩
    rcases hcase with ⟨_, b, e1, e2, e3⟩ | ⟨g, cells, e1, e2, rfl⟩
    · exact ⟨b, e1, .inr ⟨e2, e3⟩⟩
    · exact ⟨g, e2, .inl e1⟩
  · rcases hcase with ⟨hext, _⟩ | ⟨g, cells, e1, e2, rfl⟩
    · exact .inl hext
    · refine .inr fun l h _ _ => ⟨by rw [setRow_size]; exact Nat.le_refl _, hGs _ _ _ e1 hG, fun j en hen hji hp => en.hprow _ _ _ (hpres g e1 j en hen hji) hp, fun j en hen hji hst v lj hj hlj hhj _ hE => ?_⟩
      exact rowsOk_get plan 0 (hrows g e1) j en hen (by simpa using hji) hst _ _ _ _ _ _ (.inl (Nat.lt_of_lt_of_le (hlt g e1) hlj)) hE

/-- slot t's value stored into a cell of a block that was read before -/
theorem OpOk.turnS {ty : TypeId} {b off t : Nat} {x : Operand} {T : TypeId} {cs0 : Array Value} (hop : o.op = .store ty x (.tmp t)) (hg : o.guard = none) (hb : b < B0)
    (hrows : rowsOk b i 0 plan) (hold : ∀ j e, plan[j]? = some e → j ≠ i → b ∉ e.old)
    (hi : (P.info? ty).map (·.size) = some 1) (hoff : off < cs0.size)
    (hf : ∀ a w, G w → facts plan a0 a w ns → a.eval x = .pointer (some ⟨b, off, none⟩) ∧ (a.eval (.tmp t)).oneCell' = true ∧ w.heap[b]? = some (.cells cs0 T (0, 0)))
    (hGs : ∀ w cs, G w → G (w.setRow b cs)) :
    OpOk P ops Q G B0 plan a0 i o (.turnS b cs0 off t T) ns := by
  intro a w hG hff
  refine ⟨fun _ => ?_, fun h => by simp [Region.wanted, hg] at h⟩
  obtain ⟨h1, h2, h3⟩ := hf a w hG hff
  have hr := run_store_cell (P := P) (a := a) (w := w) ty x (.tmp t) hop b off _ h1 rfl T cs0 h3 hi hoff h2
  unfold Oper.wp
  rw [hr]
  refine ⟨undef, rfl, setRow_same h3, .inr fun l h _ _ => ⟨by rw [setRow_size]; exact Nat.le_refl _, hGs _ _ hG, fun j e he hji hp => e.hprow _ _ _ (hold j e he hji) hp, fun j e he hji hst v lj hj hlj hhj _ hE => ?_⟩⟩
  exact rowsOk_get plan 0 hrows j e he (by simpa using hji) hst _ _ _ _ _ _ (.inl (by omega)) hE
end
end JR
