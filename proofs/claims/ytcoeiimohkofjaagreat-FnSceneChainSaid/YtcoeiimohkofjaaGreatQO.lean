import Derived.Test.YtcoeiimohkofjaaGreatQH
import Derived.Test.YtcoeiimohkofjaaGreatVn
import Derived.Test.YtcoeiimohkofjaaGreatVr
set_option linter.unusedSimpArgs false
set_option linter.unusedVariables false
/-! laws.isVary: what a shape is where it answers true. -/
namespace PF
open Go Go.RowKit JR
end PF
namespace Go.Proofs.YtcoeiimohkofjaaGreat
open Go.RowKit PF JR

end Go.Proofs.YtcoeiimohkofjaaGreat
set_option linter.unusedSimpArgs false
set_option linter.unusedVariables false
/-! varyShape of every kind: results with block ranges (printed by gen/hw.py). -/
namespace PF
open Go Go.RowKit JR
theorem SlR.keep' {l h : Nat} {w w' : World} {v : Value} {L : List (Int × Int)} (hk : ∀ b, l ≤ b → b < h → b < w.heap.size → w'.heap[b]? = w.heap[b]?) (H : SlR l h w v L) : SlR l h w' v L := by
  obtain ⟨A, c, hv, hh⟩ := H
  refine ⟨A, c, hv, fun k p hp => ?_⟩
  obtain ⟨b, h1, h4, h5, h2, h3⟩ := hh k p hp
  have hb := World.block_lt_of_cell? w _ h2
  exact ⟨b, h1, h4, h5, (World.cell?_of_block (hk b h4 h5 hb)).trans h2, (World.cell?_of_block (hk b h4 h5 hb)).trans h3⟩
theorem SlR.len {l h : Nat} {w : World} {v : Value} {L : List (Int × Int)} (H : SlR l h w v L) : ∃ A c, v = .slice A L.length c := by
  obtain ⟨A, c, hv, _⟩ := H
  exact ⟨A, c, hv⟩
theorem SlR.one {lo h : Nat} {u : World} {v : Value} {l : List (Int × Int)} (H : SlR lo h u v l) (hne : 0 < l.length) : ∃ b, lo ≤ b ∧ b < h ∧ b < u.heap.size ∧ SlR b (b + 1) u v l := by
  obtain ⟨A, c, hv, hk⟩ := H
  obtain ⟨b, hA, h1, h2, h3, -⟩ := hk 0 (l[0]) (by simp [hne])
  refine ⟨b, h1, h2, World.block_lt_of_cell? u _ h3, A, c, hv, fun k p hp => ?_⟩
  obtain ⟨b', hA', -, -, g1, g2⟩ := hk k p hp
  rw [hA] at hA'
  cases hA'
  exact ⟨b, hA, Nat.le_refl _, by omega, g1, g2⟩
theorem own_neR {w : World} {base n : Nat} {T : TypeId} {v : Value} {xs : List Value} {b : Nat} {x : Value} {l : List (Int × Int)} (H : w.ownsRow base T 1 v n xs) (h0 : ∃ A m c, xs[0]? = some (.slice A m c))
    (hs : SlR b (b + 1) w x l) (hne : 0 < l.length) : some b ≠ v.ownBlock := by
  intro he
  obtain ⟨A, m, c, h0⟩ := h0
  have h1 := H.cells he.symm _ _ h0
  obtain ⟨A', c', hv, hk⟩ := hs
  obtain ⟨b', hA', g1, g2, g3, -⟩ := hk 0 (l[0]) (by simp [hne])
  have hb : b' = b := by omega
  subst hb
  have e : (⟨b', 0, none⟩ : Addr).add 0 = ⟨b', 0 + 0 * 2, none⟩ := by unfold Addr.add; split <;> simp_all
  rw [e, g3] at h1
  cases h1
theorem SlH.own {w : World} {base : Nat} {T : TypeId} {v : Value} {xs : List Value} {H : List (List (Int × Int))} (hown : w.ownsRow base T 1 v H.length xs)
    (hqs : ∀ (j : Nat) (x : List (Int × Int)), j < H.length → H[j]? = some x → ∃ y, xs[j]? = some y ∧ SlP w y x) : SlH w v H := by
  rcases id hown.2 with ⟨rfl, h0⟩ | ⟨g, cap, cur, rfl, _⟩
  · have : H = [] := List.eq_nil_of_length_eq_zero h0
    subst this
    exact ⟨none, 0, rfl, fun k p hp => by simp at hp⟩
  · refine ⟨_, _, rfl, fun k x hx => ?_⟩
    have hkl : k < H.length := by
      rcases Nat.lt_or_ge k H.length with h | h
      · exact h
      · rw [List.getElem?_eq_none h] at hx; cases hx
    obtain ⟨y, e1, e3⟩ := hqs k x hkl hx
    have a1 := hown.cells (g := g) rfl _ _ e1
    have e : (⟨g, 0, none⟩ : Addr).add k = ⟨g, 0 + k, none⟩ := by unfold Addr.add; split <;> simp_all
    rw [e] at a1
    exact ⟨g, 0, y, rfl, a1, e3⟩
theorem SlR.wide {l h l' h' : Nat} {w : World} {v : Value} {L : List (Int × Int)} (H : SlR l h w v L) (h1 : l' ≤ l) (h2 : h ≤ h') : SlR l' h' w v L := by
  obtain ⟨A, c, hv, hh⟩ := H
  refine ⟨A, c, hv, fun k p hp => ?_⟩
  obtain ⟨b, h1, h4, h5, h2, h3⟩ := hh k p hp
  exact ⟨b, h1, by omega, by omega, h2, h3⟩
/-- a slice of slices of points, all of it in blocks from number lo up to hi -/
def SlHR (lo hi : Nat) (w : World) (v : Value) (H : List (List (Int × Int))) : Prop :=
  ∃ A c, v = .slice A H.length c ∧ ∀ k h, H[k]? = some h → ∃ b y, A = some ⟨b, 0, none⟩ ∧ lo ≤ b ∧ b < hi ∧ w.cell? ⟨b, 0 + k, none⟩ = some y ∧ SlR lo hi w y h
theorem SlHR.h {lo hi : Nat} {w : World} {v : Value} {H : List (List (Int × Int))} (h : SlHR lo hi w v H) : SlH w v H := by
  obtain ⟨A, c, hv, hk⟩ := h
  refine ⟨A, c, hv, fun k x hx => ?_⟩
  obtain ⟨b, y, h1, -, -, h2, h3⟩ := hk k x hx
  exact ⟨b, 0, y, h1, h2, h3.p⟩
theorem SlHR.keep {lo hi : Nat} {w w' : World} {v : Value} {H : List (List (Int × Int))} (hb : ∀ b, lo ≤ b → b < hi → w'.heap[b]? = w.heap[b]?) (h : SlHR lo hi w v H) : SlHR lo hi w' v H := by
  obtain ⟨A, c, hv, hk⟩ := h
  refine ⟨A, c, hv, fun k x hx => ?_⟩
  obtain ⟨b, y, h1, h4, h5, h2, h3⟩ := hk k x hx
  exact ⟨b, y, h1, h4, h5, (World.cell?_of_block (hb b h4 h5)).trans h2, h3.keep hb⟩
theorem SlHR.own {w : World} {base lo hi : Nat} {T : TypeId} {v : Value} {xs : List Value} {H : List (List (Int × Int))} (hown : w.ownsRow base T 1 v H.length xs) (h1 : lo ≤ base) (h2 : w.heap.size ≤ hi)
    (hqs : ∀ (j : Nat) (x : List (Int × Int)), j < H.length → H[j]? = some x → ∃ y, xs[j]? = some y ∧ SlR lo hi w y x) : SlHR lo hi w v H := by
  have hlt := fun g hg => hown.lt g hg
  rcases id hown.2 with ⟨rfl, h0⟩ | ⟨g, cap, cur, rfl, _⟩
  · have : H = [] := List.eq_nil_of_length_eq_zero h0
    subst this
    exact ⟨none, 0, rfl, fun k p hp => by simp at hp⟩
  · refine ⟨_, _, rfl, fun k x hx => ?_⟩
    have hkl : k < H.length := by
      rcases Nat.lt_or_ge k H.length with h | h
      · exact h
      · rw [List.getElem?_eq_none h] at hx; cases hx
    obtain ⟨y, e1, e3⟩ := hqs k x hkl hx
    have a1 := hown.cells (g := g) rfl _ _ e1
    have e : (⟨g, 0, none⟩ : Addr).add k = ⟨g, 0 + k, none⟩ := by unfold Addr.add; split <;> simp_all
    rw [e] at a1
    have hg := hlt g rfl
    exact ⟨g, y, rfl, by omega, by omega, a1, e3⟩
end PF
namespace Go.Proofs.YtcoeiimohkofjaaGreat
open Go.RowKit PF JR
end Go.Proofs.YtcoeiimohkofjaaGreat
