import Derived.Test.YtbfanhdofopnnaaGreatQW
import Derived.Test.YtbfanhdofopnnaaGreatQN
set_option linter.unusedSimpArgs false
set_option linter.unusedVariables false
/-! The plain law of FnClosedAlike: a ring whose first point stands at its end again. -/
namespace Go.Proofs.YtbfanhdofopnnaaGreat
open Go.RowKit PF JR
/-- the ring with its first point at its end again -/
def cls (l : List (Int × Int)) : List (Int × Int) := l ++ [at' l 0]
theorem cls_len (l : List (Int × Int)) : (cls l).length = l.length + 1 := by simp [cls]
theorem cls_at {l : List (Int × Int)} {k : Nat} (h : k < l.length) : at' (cls l) k = at' l k := by
  unfold cls at'
  simp [List.getD, List.getElem?_append, h]
theorem cls_last (l : List (Int × Int)) : at' (cls l) l.length = at' l 0 := by
  unfold cls at'
  simp [List.getD]
theorem cls_nxp {l : List (Int × Int)} {k : Nat} (h : k < l.length) : nxp (cls l) k = nxp l k := by
  unfold nxp
  rw [cls_len, if_neg (by omega)]
  by_cases e : k = l.length - 1
  · rw [if_pos e, show k + 1 = l.length from by omega, cls_last]
  · rw [if_neg e, cls_at (by omega)]
theorem cls_mem {l : List (Int × Int)} (h : 0 < l.length) (p : Int × Int) : p ∈ cls l ↔ p ∈ l := by
  unfold cls
  rw [List.mem_append, List.mem_singleton]
  constructor
  · rintro (h1 | h1)
    · exact h1
    · rw [h1]; exact List.mem_of_getElem? (at_get h)
  · exact .inl
theorem cls_nS {l : List (Int × Int)} (h3 : 3 ≤ l.length) : nSeg true (cls l) = l.length := by
  rcases nS (l := cls l) (by rw [cls_len]; omega) with h | ⟨h, -⟩
  · exfalso
    unfold nSeg at h
    rw [if_pos rfl, cls_len, if_neg (by omega), Nat.add_sub_cancel] at h
    have e : (cls l)[l.length]? = (cls l)[0]? := by
      rw [at_get (show l.length < (cls l).length by rw [cls_len]; omega), at_get (show 0 < (cls l).length by rw [cls_len]; omega), cls_last, cls_at (by omega)]
    rw [if_pos e] at h
    omega
  · rw [h, cls_len, Nat.add_sub_cancel]
theorem nS_ne {l : List (Int × Int)} (h3 : 3 ≤ l.length) (hne : at' l 0 ≠ at' l (l.length - 1)) : nSeg true l = l.length := by
  rcases nS h3 with h | ⟨-, h⟩
  · exact h
  · exact absurd h.symm hne
theorem cls_box {l : List (Int × Int)} (h3 : 3 ≤ l.length) : ppB true (cls l) = ppB true l := by
  rw [ppB_3 h3, ppB_3 (by rw [cls_len]; omega)]
  exact box_mem (by omega) (by rw [cls_len]; omega) fun p => cls_mem (by omega) p
/-- **a ring whose first point stands at its end again is alike** -/
theorem cls_like {l : List (Int × Int)} (h3 : 3 ≤ l.length) (hne : at' l 0 ≠ at' l (l.length - 1)) : Like l (cls l) := by
  have n1 := nS_ne h3 hne
  have n2 := cls_nS h3
  refine ⟨(cls_box h3).symm, fun p al => ?_, fun F _ _ => ?_, fun F _ _ => ?_, fun F => ?_⟩
  · unfold ringHas
    have e1 : aon l p l.length = aon (cls l) p l.length := by
      rw [aon_any, aon_any]
      exact anyN_congr fun k hk => by unfold ron; rw [cls_at hk, cls_nxp hk]
    have e2 : xrs l p l.length = xrs (cls l) p l.length := by
      rw [xrs_cnt, xrs_cnt, cntN_congr fun k hk => show rin l p k = rin (cls l) p k by unfold rin; rw [cls_at hk, cls_nxp hk]]
    rw [cls_box h3, n1, n2, e1, e2]
  · rw [n1, n2]
    exact anyN_congr fun k hk => by rw [cls_at hk, cls_nxp hk]
  · rw [n1, n2, cntN_congr fun k hk => show F (at' l k) (nxp l k) = F (at' (cls l) k) (nxp (cls l) k) by rw [cls_at hk, cls_nxp hk]]
  · rw [pts_any, pts_any, Bool.eq_iff_iff, List.any_eq_true, List.any_eq_true]
    simp only [cls_mem (show 0 < l.length by omega)]
theorem shOk_cls {l : List (Int × Int)} {H : List (List (Int × Int))} (h : ShOk 3 l H) (h11 : l.length ≤ 11) : ShOk 3 (cls l) H := by
  obtain ⟨h1, h2, h3, hk⟩ := h
  have hl : 3 ≤ l.length := by
    rcases hk with ⟨h, -⟩ | ⟨h, -⟩ | ⟨h, -⟩ | ⟨-, h, -⟩
    · cases h
    · cases h
    · cases h
    · exact h
  exact ⟨fun p hp => h1 p ((cls_mem (by omega) p).1 hp), h2, h3, .inr (.inr (.inr ⟨rfl, by rw [cls_len]; omega, by rw [cls_len]; omega⟩))⟩
end Go.Proofs.YtbfanhdofopnnaaGreat
