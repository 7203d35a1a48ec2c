import Derived.Test.YtbfanhdofopnnaaGreatQW
import Derived.Test.YtbfanhdofopnnaaGreatIv
import Derived.Test.YtbfanhdofopnnaaGreatQN
set_option linter.unusedSimpArgs false
set_option linter.unusedVariables false
/-! Plain: a polygon whose ring is alike meets what it met. -/
namespace Go.Proofs.YtbfanhdofopnnaaGreat
open Go.RowKit PF JR
theorem mtV_like {l l' : List (Int × Int)} {H : List (List (Int × Int))} (h : Like l l') (h3 : 3 ≤ l.length) {J : Int} {m : List (Int × Int)} {G : List (List (Int × Int))} (hJ : ShOk J m G) : mtV 3 l H J m G = mtV 3 l' H J m G ∧ mtV J m G 3 l H = mtV J m G 3 l' H := by
  have h5 : ∀ a b c d : Int, 3 ≤ (rl a b c d).length := fun _ _ _ _ => Nat.le_add_left 3 2
  obtain ⟨-, -, -, hj⟩ := hJ
  rcases hj with ⟨rfl, q, rfl⟩ | ⟨rfl, a', b', c', d', rfl, g1, g2⟩ | ⟨rfl, g1, g2⟩ | ⟨rfl, g1, g2⟩ <;>
    simp only [mtV, byK, Int.reduceEq, if_true, if_false]
  · exact ⟨polHas_like h _, polHas_like h _⟩
  · exact ⟨polV_like h (Like.refl _) h3 (h5 _ _ _ _), polV_like h (Like.refl _) h3 (h5 _ _ _ _)⟩
  · exact ⟨polLV_like h, polLV_like h⟩
  · exact ⟨polV_like h (Like.refl _) h3 g1, polV_like (Like.refl _) h g1 h3⟩
theorem okP_m {l : List (Int × Int)} (h : l.all okP = true) : ∀ p ∈ l, p.1.natAbs ≤ 1024 ∧ p.2.natAbs ≤ 1024 := by
  intro p hp
  have := List.all_eq_true.1 h p hp
  simp [okP] at this
  omega
theorem shOk_of {K : Int} {l : List (Int × Int)} {H : List (List (Int × Int))} (h : VaryS K l H) : ShOk K l H := by
  obtain ⟨hok, h3, -, hs, hk⟩ := h
  refine ⟨fun p hp => by have := okP_m hok p hp; unfold Bn3; omega, h3, fun x hx => ?_, ?_⟩
  · obtain ⟨g1, g2, g3⟩ := hs x hx
    exact ⟨g1, by omega, fun p hp => by have := okP_m g3 p hp; unfold Bn3; omega⟩
  · rcases hk with ⟨rfl, h⟩ | ⟨rfl, a, b, c, d, h, h1, h2⟩ | ⟨rfl, h1, h2⟩ | ⟨rfl, h1, h2⟩
    · refine .inl ⟨rfl, ?_⟩
      match l, h with
      | [p], _ => exact ⟨p, rfl⟩
    · exact .inr (.inl ⟨rfl, a, b, c, d, h, h1, h2⟩)
    · exact .inr (.inr (.inl ⟨rfl, h1, h2⟩))
    · exact .inr (.inr (.inr ⟨rfl, h1, h2⟩))
end Go.Proofs.YtbfanhdofopnnaaGreat
set_option linter.unusedSimpArgs false
set_option linter.unusedVariables false
/-! The plain law of FnHolesAlike: holes in another order, each begun elsewhere. -/
namespace Go.Proofs.YtbfanhdofopnnaaGreat
open Go.RowKit PF JR
section
variable {AT : Nat} {l m : List (Int × Int)} {H G : List (List (Int × Int))} (h3 : ∀ x ∈ H, 3 ≤ x.length)
include h3
end
end Go.Proofs.YtbfanhdofopnnaaGreat
