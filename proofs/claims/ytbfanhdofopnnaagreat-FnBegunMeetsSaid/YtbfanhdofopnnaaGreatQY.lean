import Derived.Test.YtbfanhdofopnnaaGreatQW
import Derived.Test.YtbfanhdofopnnaaGreatIv
import Derived.Test.YtbfanhdofopnnaaGreatQN
set_option linter.unusedSimpArgs false
set_option linter.unusedVariables false
/-! Plain: a polygon whose ring is alike meets what it met. -/
namespace Go.Proofs.YtbfanhdofopnnaaGreat
open Go.RowKit PF JR
theorem shOk_bgn {l : List (Int × Int)} {H : List (List (Int × Int))} (h : ShOk 3 l H) (a : Nat) (back : Bool) : ShOk 3 (bgn l a back) H := by
  obtain ⟨h1, h2, h3, hk⟩ := h
  have hl : 3 ≤ l.length ∧ l.length ≤ 12 := by
    rcases hk with ⟨h, -⟩ | ⟨h, -⟩ | ⟨h, -⟩ | ⟨-, h⟩
    · cases h
    · cases h
    · cases h
    · exact h
  exact ⟨fun p hp => h1 p ((bgn_mem l a back (by omega) p).1 hp), h2, h3, .inr (.inr (.inr ⟨rfl, by rw [bgn_len]; exact hl.1, by rw [bgn_len]; exact hl.2⟩))⟩
theorem mtV_like {l l' : List (Int × Int)} {H : List (List (Int × Int))} (h : Like l l') (h3 : 3 ≤ l.length) {J : Int} {m : List (Int × Int)} {G : List (List (Int × Int))} (hJ : ShOk J m G) : mtV 3 l H J m G = mtV 3 l' H J m G ∧ mtV J m G 3 l H = mtV J m G 3 l' H := by
  have h5 : ∀ a b c d : Int, 3 ≤ (rl a b c d).length := fun _ _ _ _ => Nat.le_add_left 3 2
  obtain ⟨-, -, -, hj⟩ := hJ
  rcases hj with ⟨rfl, q, rfl⟩ | ⟨rfl, a', b', c', d', rfl, g1, g2⟩ | ⟨rfl, g1, g2⟩ | ⟨rfl, g1, g2⟩ <;>
    simp only [mtV, byK, Int.reduceEq, if_true, if_false]
  · exact ⟨polHas_like h _, polHas_like h _⟩
  · exact ⟨polV_like h (Like.refl _) h3 (h5 _ _ _ _), polV_like h (Like.refl _) h3 (h5 _ _ _ _)⟩
  · exact ⟨polLV_like h, polLV_like h⟩
  · exact ⟨polV_like h (Like.refl _) h3 g1, polV_like (Like.refl _) h g1 h3⟩
theorem okP_m {l : List (Int × Int)} (h : l.all okP = true) : ∀ p ∈ l, p.1.natAbs ≤ 1024 ∧ p.2.natAbs ≤ 1024 := by
  intro p hp
  have := List.all_eq_true.1 h p hp
  simp [okP] at this
  omega
theorem shOk_of {K : Int} {l : List (Int × Int)} {H : List (List (Int × Int))} (h : VaryS K l H) : ShOk K l H := by
  obtain ⟨hok, h3, -, hs, hk⟩ := h
  refine ⟨fun p hp => by have := okP_m hok p hp; unfold Bn3; omega, h3, fun x hx => ?_, ?_⟩
  · obtain ⟨g1, g2, g3⟩ := hs x hx
    exact ⟨g1, by omega, fun p hp => by have := okP_m g3 p hp; unfold Bn3; omega⟩
  · rcases hk with ⟨rfl, h⟩ | ⟨rfl, a, b, c, d, h, h1, h2⟩ | ⟨rfl, h1, h2⟩ | ⟨rfl, h1, h2⟩
    · refine .inl ⟨rfl, ?_⟩
      match l, h with
      | [p], _ => exact ⟨p, rfl⟩
    · exact .inr (.inl ⟨rfl, a, b, c, d, h, h1, h2⟩)
    · exact .inr (.inr (.inl ⟨rfl, h1, h2⟩))
    · exact .inr (.inr (.inr ⟨rfl, h1, h2⟩))
end Go.Proofs.YtbfanhdofopnnaaGreat
set_option linter.unusedSimpArgs false
set_option linter.unusedVariables false
/-! The plain law of FnHolesAlike: holes in another order, each begun elsewhere. -/
namespace Go.Proofs.YtbfanhdofopnnaaGreat
open Go.RowKit PF JR
/-- hole i, begun elsewhere -/
def bgH (AT : Nat) (H : List (List (Int × Int))) (i : Nat) : List (Int × Int) := bgn (H.getD i []) (AT % (H.getD i []).length) (decide (i % 2 = 0))
/-- the holes from the last to the first, each begun elsewhere -/
def revH (AT : Nat) (H : List (List (Int × Int))) : List (List (Int × Int)) := (List.range H.length).map fun k => bgH AT H (H.length - 1 - k)
theorem revH_len (AT : Nat) (H : List (List (Int × Int))) : (revH AT H).length = H.length := by simp [revH]
theorem revH_getD {AT : Nat} {H : List (List (Int × Int))} {k : Nat} (h : k < H.length) : (revH AT H).getD k [] = bgH AT H (H.length - 1 - k) := by
  unfold revH
  simp [List.getD, h]
theorem any_revH (AT : Nat) (H : List (List (Int × Int))) (h3 : ∀ x ∈ H, 3 ≤ x.length) (f : List (Int × Int) → Bool) (hf : ∀ (x : List (Int × Int)) (a : Nat) (b : Bool), 3 ≤ x.length → f (bgn x a b) = f x) :
    anyN (fun k => f ((revH AT H).getD k [])) (revH AT H).length = anyN (fun k => f (H.getD k [])) H.length := by
  rw [revH_len, Bool.eq_iff_iff, anyN_iff, anyN_iff]
  have e : ∀ k, k < H.length → f ((revH AT H).getD k []) = f (H.getD (H.length - 1 - k) []) := fun k hk => by
    rw [revH_getD hk]
    exact hf _ _ _ (h3 _ (getD_mem (by omega)))
  constructor
  · rintro ⟨k, hk, g⟩
    exact ⟨H.length - 1 - k, by omega, by rw [← e k hk]; exact g⟩
  · rintro ⟨k, hk, g⟩
    refine ⟨H.length - 1 - k, by omega, ?_⟩
    rw [e _ (by omega), show H.length - 1 - (H.length - 1 - k) = k from by omega]
    exact g
theorem orN_any (f : Nat → Bool) : ∀ n, orN f n = anyN f n := by
  intro n
  induction n with
  | zero => rfl
  | succ n ih => rw [orN, anyN, ih]
theorem ppV_bgn (x : List (Int × Int)) (a : Nat) (b : Bool) (h3 : 3 ≤ x.length) : ppV true (bgn x a b) = ppV true x := by
  unfold ppV tooS
  rw [bgn_len, if_neg (by simp; omega), if_neg (by simp; omega)]
  have h1 := bgn_conv x a (by omega)
  have h2 := bgn_convB x a (by omega)
  rw [bgn_len] at h1 h2
  cases b with
  | false => rw [h1]
  | true => rw [h2]
theorem rcrV_bgn {m : List (Int × Int)} (cl : Bool) (x : List (Int × Int)) (a : Nat) (b : Bool) (h3 : 3 ≤ x.length) : rcrV (bgn x a b) cl m = rcrV x cl m :=
  (rcrV_like1 (bgn_like x a b h3) (ppV_bgn x a b h3).symm cl).symm
section
variable {AT : Nat} {l m : List (Int × Int)} {H G : List (List (Int × Int))} (h3 : ∀ x ∈ H, 3 ≤ x.length)
include h3
theorem polHas_rev (p : Int × Int) : polHas l (revH AT H) p = polHas l H p := by
  unfold polHas
  rw [orN_any, orN_any, any_revH AT H h3 (fun x => ringHas x p false) fun x a b hx => ((bgn_like x a b hx).has p false).symm]
theorem polV_rev : polV l (revH AT H) m G = polV l H m G := by
  unfold polV
  rw [any_revH AT H h3 (fun x => rcrV x true m) fun x a b hx => rcrV_bgn true x a b hx]
theorem polLV_rev : polLV l (revH AT H) m = polLV l H m := by
  unfold polLV
  rw [any_revH AT H h3 (fun x => rcrV x false m) fun x a b hx => rcrV_bgn false x a b hx]
theorem mtV_rev (J : Int) : mtV 3 l (revH AT H) J m G = mtV 3 l H J m G := by
  simp only [mtV, byK, Int.reduceEq, if_false]
  rw [polHas_rev h3, polV_rev h3, polLV_rev h3, polV_rev h3]
end
theorem shOk_rev {AT : Nat} {l : List (Int × Int)} {H : List (List (Int × Int))} (h : ShOk 3 l H) : ShOk 3 l (revH AT H) := by
  obtain ⟨h1, h2, h3, hk⟩ := h
  refine ⟨h1, by rw [revH_len]; exact h2, fun x hx => ?_, hk⟩
  unfold revH at hx
  obtain ⟨k, hk, rfl⟩ := List.mem_map.1 hx
  have hk := List.mem_range.1 hk
  obtain ⟨g1, g2, g3⟩ := h3 _ (getD_mem (H := H) (k := H.length - 1 - k) (by omega))
  unfold bgH
  exact ⟨by rw [bgn_len]; exact g1, by rw [bgn_len]; exact g2, fun p hp => g3 p ((bgn_mem _ _ _ (by omega) p).1 hp)⟩
end Go.Proofs.YtbfanhdofopnnaaGreat
