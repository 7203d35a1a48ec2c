import Derived.Test.YtbfanhdofopnnaaGreatQU
import Derived.Test.YtbfanhdofopnnaaGreatQW
set_option linter.unusedSimpArgs false
set_option linter.unusedVariables false
/-! What a shape contains is kept by turns (plain). -/
namespace Go.Proofs.YtbfanhdofopnnaaGreat
open Go.RowKit PF JR
section
variable {KK S DX DY : Int}
theorem tpt_eqB (hK : 0 ≤ KK ∧ KK ≤ 7) (hS : 0 < S) (a b : Int × Int) : decide (tpt KK S DX DY a = tpt KK S DX DY b) = decide (a = b) :=
  decide_eq_decide.2 ⟨fun h => tpt_inj2 hK hS a b h, fun h => by rw [h]⟩
theorem boxEq_map (hK : 0 ≤ KK ∧ KK ≤ 7) (hS : 0 < S) {m : List (Int × Int)} (hm : 0 < m.length) (p : Int × Int) : boxEq (box (m.map (tpt KK S DX DY))) (tpt KK S DX DY p) = boxEq (box m) p := by
  rw [boxEq_all (by rw [List.length_map]; exact hm), boxEq_all hm, List.all_map]
  congr 1
  funext q
  exact tpt_eqB hK hS q p
theorem bcB_map (hK : 0 ≤ KK ∧ KK ≤ 7) (hS : 0 < S) {m : List (Int × Int)} (hm : 0 < m.length) {a b c d : Int} (h1 : a ≤ c) (h2 : b ≤ d) : bcB (rx0 KK S DX DY a b c d, ry0 KK S DX DY a b c d, rx1 KK S DX DY a b c d, ry1 KK S DX DY a b c d) (box (m.map (tpt KK S DX DY))) = bcB (a, b, c, d) (box m) := by
  rw [bcB_all (by rw [List.length_map]; exact hm), bcB_all hm, List.all_map]
  congr 1
  funext q
  exact inB_mbx hK hS (a := (a, b, c, d)) ⟨h1, h2⟩ q
theorem rchV_map (hK : 0 ≤ KK ∧ KK ≤ 7) (hS : 0 < S) {l m : List (Int × Int)} {cl : Bool} (h3 : 3 ≤ l.length) (hm : 0 < m.length) (e1 : ppB cl m = box m) (e2 : ppB cl (m.map (tpt KK S DX DY)) = box (m.map (tpt KK S DX DY))) :
    rchV (l.map (tpt KK S DX DY)) cl (m.map (tpt KK S DX DY)) = rchV l cl m := by
  rw [rchV_all (by rw [List.length_map]; exact hm) e2, rchV_all hm e1, List.all_map]
  congr 1
  funext q
  exact ringHas_map (good_tpt KK S DX DY hS) true h3
theorem hdV_turn (hK : 0 ≤ KK ∧ KK ≤ 7) (hS : 0 < S) {K J : Int} {l m : List (Int × Int)} {H G : List (List (Int × Int))} (h : ShOk K l H) (hc : CvOk K l H) (hJ : ShOk J m G) :
    hdV K (vsl KK S DX DY K l) J (vsl KK S DX DY J m) (G.map fun x => x.map (tpt KK S DX DY)) = hdV K l J m G := by
  obtain ⟨-, -, hH, hk⟩ := h
  obtain ⟨-, -, hG, hj⟩ := hJ
  have hg := good_tpt KK S DX DY hS
  have h5 : ∀ a b c d : Int, 3 ≤ (rl a b c d).length := fun _ _ _ _ => Nat.le_add_left 3 2
  have e3 : ∀ x : List (Int × Int), 3 ≤ x.length → ppB true (x.map (tpt KK S DX DY)) = box (x.map (tpt KK S DX DY)) := fun x hx => ppB_3 (by rw [List.length_map]; exact hx)
  have e2 : ∀ x : List (Int × Int), 2 ≤ x.length → ppB false (x.map (tpt KK S DX DY)) = box (x.map (tpt KK S DX DY)) := fun x hx => ppB_F (by rw [List.length_map]; exact hx)
  rcases hk with ⟨rfl, p, rfl⟩ | ⟨rfl, a, b, c, d, rfl, h1, h2⟩ | ⟨rfl, h1, h2⟩ | ⟨rfl, h1, h2⟩
  case inr.inr.inl => exfalso; rcases hc with h | h | ⟨h, -⟩ <;> cases h
  all_goals
    rcases hj with ⟨rfl, q, rfl⟩ | ⟨rfl, a', b', c', d', rfl, g1, g2⟩ | ⟨rfl, g1, g2⟩ | ⟨rfl, g1, g2⟩ <;>
    simp only [hdV, byK, vsl, Int.reduceEq, if_true, if_false]
  · exact decide_eq_decide.2 (tpt_eq hK hS p q)
  · obtain ⟨t1, t2⟩ := rect_order (DX := DX) (DY := DY) hK hS g1 g2
    have n1 : ¬ a' = c' := by omega
    unfold boxEq
    rw [decide_eq_false, decide_eq_false]
    · show ¬ (a' = p.1 ∧ b' = p.2 ∧ c' = p.1 ∧ d' = p.2)
      omega
    · rintro ⟨e1, -, e3, -⟩
      have e1 : rx0 KK S DX DY a' b' c' d' = (at' ([p].map (tpt KK S DX DY)) 0).1 := e1
      have e3 : rx1 KK S DX DY a' b' c' d' = (at' ([p].map (tpt KK S DX DY)) 0).1 := e3
      omega
  · rw [e2 m g1, ppB_F g1]
    exact boxEq_map hK hS (by omega) p
  · rw [e3 m g1, ppB_3 g1]
    exact boxEq_map hK hS (by omega) p
  · exact inB_mbx hK hS (a := (a, b, c, d)) ⟨Int.le_of_lt h1, Int.le_of_lt h2⟩ q
  · exact bcB_mbx hK hS (a := (a, b, c, d)) (b := (a', b', c', d')) ⟨Int.le_of_lt h1, Int.le_of_lt h2⟩ ⟨Int.le_of_lt g1, Int.le_of_lt g2⟩
  · rw [e2 m g1, ppB_F g1]
    exact bcB_map hK hS (by omega) (Int.le_of_lt h1) (Int.le_of_lt h2)
  · rw [e3 m g1, ppB_3 g1]
    exact bcB_map hK hS (by omega) (Int.le_of_lt h1) (Int.le_of_lt h2)
  · exact polHas_map (H := []) hg h1 (fun x hx => by cases hx)
  · refine (rchV_like2 (rl_turn (DX := DX) (DY := DY) hK hS g1 g2).symm).trans ?_
    exact rchV_map hK hS h1 (by have := h5 a' b' c' d'; omega) (ppB_3 (h5 _ _ _ _)) (e3 _ (h5 _ _ _ _))
  · exact rchV_map hK hS h1 (by omega) (ppB_F g1) (e2 m g1)
  · exact rchV_map hK hS h1 (by omega) (ppB_3 g1) (e3 m g1)
theorem cvOk_turn (hK : 0 ≤ KK ∧ KK ≤ 7) (hS : 0 < S) {K : Int} {l : List (Int × Int)} {H : List (List (Int × Int))} (h : CvOk K l H) (h3 : K = 3 → 3 ≤ l.length) : CvOk K (vsl KK S DX DY K l) (H.map fun x => x.map (tpt KK S DX DY)) := by
  rcases h with h | h | ⟨rfl, rfl, h⟩
  · exact .inl h
  · exact .inr (.inl h)
  · refine .inr (.inr ⟨rfl, rfl, ?_⟩)
    simp only [vsl, Int.reduceEq, if_false]
    rw [ppV_map hK hS (h3 rfl)]
    exact h
end
end Go.Proofs.YtbfanhdofopnnaaGreat
