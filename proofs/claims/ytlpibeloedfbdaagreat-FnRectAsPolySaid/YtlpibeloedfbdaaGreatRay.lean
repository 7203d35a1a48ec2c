import Derived.Test.YtlpibeloedfbdaaGreatRayA
import Derived.Test.YtlpibeloedfbdaaGreatRayB
import Derived.Test.YtlpibeloedfbdaaGreatRayC
import Derived.Test.YtlpibeloedfbdaaGreatRayD
import Derived.Test.YtlpibeloedfbdaaGreatPlane
set_option linter.unusedSimpArgs false
set_option linter.unusedVariables false
namespace Go.Proofs.YtlpibeloedfbdaaGreat
open Go.RowKit PF JR

theorem ray_fin {v : Array Value} {w : World} {i o i' o' : Bool} (h : Calls Tryz.prog 106 v w fun e w' => e = .returned (.agg #[.bool i, .bool o]) ∧ Below w.heap.size w w') (hi : i' = i) (ho : o' = o) :
    Calls Tryz.prog 106 v w fun e w' => e = .returned (.agg #[.bool i', .bool o']) ∧ Below w.heap.size w w' := by
  rw [hi, ho]; exact h

theorem raycast_c {ax ay bx bY px py : Nat} {Ax Ay Bx By Px Py : Int} (hax : Rep ax Ax) (hay : Rep ay Ay) (hbx : Rep bx Bx) (hby : Rep bY By) (hpx : Rep px Px) (hpy : Rep py Py)
    (b1 : -16384 ≤ Ax ∧ Ax ≤ 16384 ∧ -16384 ≤ Ay ∧ Ay ≤ 16384 ∧ -16384 ≤ Bx ∧ Bx ≤ 16384 ∧ -16384 ≤ By ∧ By ≤ 16384 ∧ -16384 ≤ Px ∧ Px ≤ 16384 ∧ -16384 ≤ Py ∧ Py ≤ 16384) (w : World) :
    Calls Tryz.prog 106 #[.agg #[fl ax, fl ay, fl bx, fl bY], .agg #[fl px, fl py]] w fun e w' => e = .returned (.agg #[.bool (rcIn Ax Ay Bx By Px Py), .bool (rcOn Ax Ay Bx By Px Py)]) ∧ Below w.heap.size w w' := by
  rcases Int.lt_trichotomy Ay By with h1 | h1 | h1
  · by_cases hr : Py < Ay ∨ By < Py
    · exact ray_fin (ray_1 hax hay hbx hby hpx hpy h1 hr w) (rcIn_up_f h1 (by omega)) (rcOn_out (by omega))
    rcases Int.lt_trichotomy Ax Bx with h2 | h2 | h2
    · by_cases hcr : (Px - Ax) * (By - Ay) = (Py - Ay) * (Bx - Ax)
      · exact ray_fin (ray_up_on_lt hax hay hbx hby hpx hpy h1 h2 ⟨by omega, by omega⟩ hcr b1 w) (rcIn_cross_up hcr) (rcOn_up h1 (by omega) (by omega) hcr)
      rcases Int.lt_or_le Py By with ht | ht
      · rcases Int.lt_or_le Ay Py with hl | hl
        · rcases Int.lt_or_le Ax Px with hx | hx
          · rcases Int.lt_or_le Px Bx with hy | hy
            · rcases Int.lt_or_le ((Py - Ay) * (Bx - Ax)) ((By - Ay) * (Px - Ax)) with hs | hs
              · exact ray_fin (ray_up_mid_lt_bf hax hay hbx hby hpx hpy h1 h2 ⟨hl, ht⟩ hx hy hs hcr b1 w) (rcIn_up_f (by omega) (.inr (.inr (by omega)))) (rcOn_ne hcr)
              · exact ray_fin (ray_up_mid_lt_bt hax hay hbx hby hpx hpy h1 h2 ⟨hl, ht⟩ hx hy hs hcr b1 w) (rcIn_up_t (by omega) (by omega) (by omega) hcr) (rcOn_ne hcr)
            · exact ray_fin (ray_up_mid_lt_r hax hay hbx hby hpx hpy h1 h2 ⟨hl, ht⟩ hy hcr b1 w) (rcIn_up_f (by omega) (.inr (.inr (up_lt_r (by omega) (by omega) (by omega) (by omega))))) (rcOn_ne hcr)
          · exact ray_fin (ray_up_mid_lt_l hax hay hbx hby hpx hpy h1 h2 ⟨hl, ht⟩ hx hcr b1 w) (rcIn_up_t (by omega) (by omega) (up_lt_l (by omega) (by omega) (by omega) (by omega)) hcr) (rcOn_ne hcr)
        · rcases Int.lt_or_le Ax Px with hx | hx
          · rcases Int.lt_or_le Px Bx with hy | hy
            · exact ray_fin (ray_up_low_lt_b hax hay hbx hby hpx hpy h1 h2 (by omega) hx hy hcr b1 w) (rcIn_up_f (by omega) (.inr (.inr (low_up_f (by omega) (by omega) (by omega))))) (rcOn_ne hcr)
            · exact ray_fin (ray_up_low_lt_r hax hay hbx hby hpx hpy h1 h2 (by omega) hy hcr b1 w) (rcIn_up_f (by omega) (.inr (.inr (up_lt_r (by omega) (by omega) (by omega) (by omega))))) (rcOn_ne hcr)
          · exact ray_fin (ray_up_low_lt_l hax hay hbx hby hpx hpy h1 h2 (by omega) hx hcr b1 w) (rcIn_up_t (by omega) (by omega) (up_lt_l (by omega) (by omega) (by omega) (by omega)) hcr) (rcOn_ne hcr)
      · exact ray_fin (ray_up_top_lt hax hay hbx hby hpx hpy h1 h2 (by omega) hcr b1 w) (rcIn_up_f (by omega) (.inl (by omega))) (rcOn_ne hcr)
    · rcases Int.lt_trichotomy Px Ax with hx | hx | hx
      · have hcr : (Px - Ax) * (By - Ay) ≠ (Py - Ay) * (Bx - Ax) := by rw [← h2, Int.sub_self, Int.mul_zero]; exact Int.mul_ne_zero (by omega) (by omega)
        rcases Int.lt_or_le Py By with ht | ht
        · rcases Int.lt_or_le Ay Py with hl | hl
          · exact ray_fin (ray_up_mid_eq_l hax hay hbx hby hpx hpy h1 h2 ⟨hl, ht⟩ hx b1 w) (rcIn_up_t (by omega) (by omega) (up_lt_l (by omega) (by omega) (by omega) (by omega)) hcr) (rcOn_ne hcr)
          · exact ray_fin (ray_up_low_eq_l hax hay hbx hby hpx hpy h1 h2 (by omega) hx b1 w) (rcIn_up_t (by omega) (by omega) (up_lt_l (by omega) (by omega) (by omega) (by omega)) hcr) (rcOn_ne hcr)
        · exact ray_fin (ray_up_top_eq_l hax hay hbx hby hpx hpy h1 h2 (by omega) hx b1 w) (rcIn_up_f (by omega) (.inl (by omega))) (rcOn_ne hcr)
      · have hcr : (Px - Ax) * (By - Ay) = (Py - Ay) * (Bx - Ax) := by rw [hx, ← h2, Int.sub_self, Int.mul_zero, Int.zero_mul]
        exact ray_fin (ray_7 hax hay hbx hby hpx hpy h1 h2 (by omega) (by omega) (by omega) w) (rcIn_cross_up hcr) (rcOn_up h1 (by omega) (by omega) hcr)
      · have hcr : (Px - Ax) * (By - Ay) ≠ (Py - Ay) * (Bx - Ax) := by rw [← h2, Int.sub_self, Int.mul_zero]; exact Int.mul_ne_zero (by omega) (by omega)
        rcases Int.lt_or_le Py By with ht | ht
        · rcases Int.lt_or_le Ay Py with hl | hl
          · exact ray_fin (ray_up_mid_eq_r hax hay hbx hby hpx hpy h1 h2 ⟨hl, ht⟩ hx b1 w) (rcIn_up_f (by omega) (.inr (.inr (up_gt_r (by omega) (by omega) (by omega) (by omega))))) (rcOn_ne hcr)
          · exact ray_fin (ray_up_low_eq_r hax hay hbx hby hpx hpy h1 h2 (by omega) hx b1 w) (rcIn_up_f (by omega) (.inr (.inr (up_gt_r (by omega) (by omega) (by omega) (by omega))))) (rcOn_ne hcr)
        · exact ray_fin (ray_up_top_eq_r hax hay hbx hby hpx hpy h1 h2 (by omega) hx b1 w) (rcIn_up_f (by omega) (.inl (by omega))) (rcOn_ne hcr)
    · by_cases hcr : (Px - Ax) * (By - Ay) = (Py - Ay) * (Bx - Ax)
      · exact ray_fin (ray_up_on_gt hax hay hbx hby hpx hpy h1 h2 ⟨by omega, by omega⟩ hcr b1 w) (rcIn_cross_up hcr) (rcOn_up h1 (by omega) (by omega) hcr)
      rcases Int.lt_or_le Py By with ht | ht
      · rcases Int.lt_or_le Ay Py with hl | hl
        · rcases Int.lt_or_le Bx Px with hx | hx
          · rcases Int.lt_or_le Px Ax with hy | hy
            · rcases Int.lt_or_le ((Py - Ay) * (Bx - Ax)) ((By - Ay) * (Px - Ax)) with hs | hs
              · exact ray_fin (ray_up_mid_gt_bf hax hay hbx hby hpx hpy h1 h2 ⟨hl, ht⟩ hx hy hs hcr b1 w) (rcIn_up_f (by omega) (.inr (.inr (by omega)))) (rcOn_ne hcr)
              · exact ray_fin (ray_up_mid_gt_bt hax hay hbx hby hpx hpy h1 h2 ⟨hl, ht⟩ hx hy hs hcr b1 w) (rcIn_up_t (by omega) (by omega) (by omega) hcr) (rcOn_ne hcr)
            · exact ray_fin (ray_up_mid_gt_r hax hay hbx hby hpx hpy h1 h2 ⟨hl, ht⟩ hy hcr b1 w) (rcIn_up_f (by omega) (.inr (.inr (up_gt_r (by omega) (by omega) (by omega) (by omega))))) (rcOn_ne hcr)
          · exact ray_fin (ray_up_mid_gt_l hax hay hbx hby hpx hpy h1 h2 ⟨hl, ht⟩ hx hcr b1 w) (rcIn_up_t (by omega) (by omega) (up_gt_l (by omega) (by omega) (by omega) (by omega)) hcr) (rcOn_ne hcr)
        · rcases Int.lt_or_le Bx Px with hx | hx
          · rcases Int.lt_or_le Px Ax with hy | hy
            · exact ray_fin (ray_up_low_gt_b hax hay hbx hby hpx hpy h1 h2 (by omega) hx hy hcr b1 w) (rcIn_up_t (by omega) (by omega) (low_up_t (by omega) (by omega) (by omega)) hcr) (rcOn_ne hcr)
            · exact ray_fin (ray_up_low_gt_r hax hay hbx hby hpx hpy h1 h2 (by omega) hy hcr b1 w) (rcIn_up_f (by omega) (.inr (.inr (up_gt_r (by omega) (by omega) (by omega) (by omega))))) (rcOn_ne hcr)
          · exact ray_fin (ray_up_low_gt_l hax hay hbx hby hpx hpy h1 h2 (by omega) hx hcr b1 w) (rcIn_up_t (by omega) (by omega) (up_gt_l (by omega) (by omega) (by omega) (by omega)) hcr) (rcOn_ne hcr)
      · exact ray_fin (ray_up_top_gt hax hay hbx hby hpx hpy h1 h2 (by omega) hcr b1 w) (rcIn_up_f (by omega) (.inl (by omega))) (rcOn_ne hcr)
  · rcases Int.lt_trichotomy Ax Bx with h2 | h2 | h2
    · by_cases h3 : Py = By
      · rcases Int.lt_or_le Px Ax with h4 | h4
        · exact ray_fin (ray_10a hax hay hbx hby hpx hpy h1 h2 h3 h4 b1 w) (rcIn_flat h1) (rcOn_outx (by omega))
        · rcases Int.lt_or_le Bx Px with h5 | h5
          · exact ray_fin (ray_10b hax hay hbx hby hpx hpy h1 h2 h3 h5 b1 w) (rcIn_flat h1) (rcOn_outx (by omega))
          · exact ray_fin (ray_5 hax hay hbx hby hpx hpy h1 h2 h3 h4 h5 w) (rcIn_flat h1) (rcOn_flat h1 h3 (by omega))
      · exact ray_fin (ray_9 hax hay hbx hby hpx hpy h1 (by omega) h3 b1 w) (rcIn_flat h1) (rcOn_out (by omega))
    · by_cases h3 : Px = Ax
      · by_cases h4 : Py = Ay
        · exact ray_fin (ray_3 hax hay hbx hby hpx hpy h1 h2 h3 h4 w) (rcIn_flat h1) (rcOn_flat h1 (by omega) (by omega))
        · exact ray_fin (ray_4b hax hay hbx hby hpx hpy h1 h2 h3 h4 w) (rcIn_flat h1) (rcOn_out (by omega))
      · exact ray_fin (ray_4a hax hay hbx hby hpx hpy h1 h2 h3 w) (rcIn_flat h1) (rcOn_outx (by omega))
    · by_cases h3 : Py = By
      · rcases Int.lt_or_le Px Bx with h4 | h4
        · exact ray_fin (ray_10c hax hay hbx hby hpx hpy h1 h2 h3 h4 b1 w) (rcIn_flat h1) (rcOn_outx (by omega))
        · rcases Int.lt_or_le Ax Px with h5 | h5
          · exact ray_fin (ray_10d hax hay hbx hby hpx hpy h1 h2 h3 h5 b1 w) (rcIn_flat h1) (rcOn_outx (by omega))
          · exact ray_fin (ray_6 hax hay hbx hby hpx hpy h1 h2 h3 h4 h5 w) (rcIn_flat h1) (rcOn_flat h1 h3 (by omega))
      · exact ray_fin (ray_9 hax hay hbx hby hpx hpy h1 (by omega) h3 b1 w) (rcIn_flat h1) (rcOn_out (by omega))
  · by_cases hr : Py < By ∨ Ay < Py
    · exact ray_fin (ray_2 hax hay hbx hby hpx hpy h1 hr w) (rcIn_down_f h1 (by omega)) (rcOn_out (by omega))
    rcases Int.lt_trichotomy Ax Bx with h2 | h2 | h2
    · by_cases hcr : (Px - Ax) * (By - Ay) = (Py - Ay) * (Bx - Ax)
      · exact ray_fin (ray_down_on_lt hax hay hbx hby hpx hpy h1 h2 ⟨by omega, by omega⟩ hcr b1 w) (rcIn_cross_up hcr) (rcOn_down h1 (by omega) (by omega) hcr)
      rcases Int.lt_or_le Py Ay with ht | ht
      · rcases Int.lt_or_le By Py with hl | hl
        · rcases Int.lt_or_le Ax Px with hx | hx
          · rcases Int.lt_or_le Px Bx with hy | hy
            · rcases Int.lt_or_le ((Py - By) * (Ax - Bx)) ((Ay - By) * (Px - Bx)) with hs | hs
              · exact ray_fin (ray_down_mid_lt_bf hax hay hbx hby hpx hpy h1 h2 ⟨hl, ht⟩ hx hy hs hcr b1 w) (rcIn_down_f (by omega) (.inr (.inr (by have := @down_slope Ax Ay Bx By Px Py; omega)))) (rcOn_ne hcr)
              · exact ray_fin (ray_down_mid_lt_bt hax hay hbx hby hpx hpy h1 h2 ⟨hl, ht⟩ hx hy hs hcr b1 w) (rcIn_down_t (by omega) (by omega) (by have := @down_slope Ax Ay Bx By Px Py; omega) hcr) (rcOn_ne hcr)
            · exact ray_fin (ray_down_mid_lt_r hax hay hbx hby hpx hpy h1 h2 ⟨hl, ht⟩ hy hcr b1 w) (rcIn_down_f (by omega) (.inr (.inr (down_lt_r (by omega) (by omega) (by omega) (by omega))))) (rcOn_ne hcr)
          · exact ray_fin (ray_down_mid_lt_l hax hay hbx hby hpx hpy h1 h2 ⟨hl, ht⟩ hx hcr b1 w) (rcIn_down_t (by omega) (by omega) (down_lt_l (by omega) (by omega) (by omega) (by omega)) hcr) (rcOn_ne hcr)
        · rcases Int.lt_or_le Ax Px with hx | hx
          · rcases Int.lt_or_le Px Bx with hy | hy
            · exact ray_fin (ray_down_low_lt_b hax hay hbx hby hpx hpy h1 h2 (by omega) hx hy hcr b1 w) (rcIn_down_t (by omega) (by omega) (low_down_t (by omega) (by omega) (by omega)) hcr) (rcOn_ne hcr)
            · exact ray_fin (ray_down_low_lt_r hax hay hbx hby hpx hpy h1 h2 (by omega) hy hcr b1 w) (rcIn_down_f (by omega) (.inr (.inr (down_lt_r (by omega) (by omega) (by omega) (by omega))))) (rcOn_ne hcr)
          · exact ray_fin (ray_down_low_lt_l hax hay hbx hby hpx hpy h1 h2 (by omega) hx hcr b1 w) (rcIn_down_t (by omega) (by omega) (down_lt_l (by omega) (by omega) (by omega) (by omega)) hcr) (rcOn_ne hcr)
      · exact ray_fin (ray_down_top_lt hax hay hbx hby hpx hpy h1 h2 (by omega) hcr b1 w) (rcIn_down_f (by omega) (.inl (by omega))) (rcOn_ne hcr)
    · rcases Int.lt_trichotomy Px Ax with hx | hx | hx
      · have hcr : (Px - Ax) * (By - Ay) ≠ (Py - Ay) * (Bx - Ax) := by rw [← h2, Int.sub_self, Int.mul_zero]; exact Int.mul_ne_zero (by omega) (by omega)
        rcases Int.lt_or_le Py Ay with ht | ht
        · rcases Int.lt_or_le By Py with hl | hl
          · exact ray_fin (ray_down_mid_eq_l hax hay hbx hby hpx hpy h1 h2 ⟨hl, ht⟩ hx b1 w) (rcIn_down_t (by omega) (by omega) (down_lt_l (by omega) (by omega) (by omega) (by omega)) hcr) (rcOn_ne hcr)
          · exact ray_fin (ray_down_low_eq_l hax hay hbx hby hpx hpy h1 h2 (by omega) hx b1 w) (rcIn_down_t (by omega) (by omega) (down_lt_l (by omega) (by omega) (by omega) (by omega)) hcr) (rcOn_ne hcr)
        · exact ray_fin (ray_down_top_eq_l hax hay hbx hby hpx hpy h1 h2 (by omega) hx b1 w) (rcIn_down_f (by omega) (.inl (by omega))) (rcOn_ne hcr)
      · have hcr : (Px - Ax) * (By - Ay) = (Py - Ay) * (Bx - Ax) := by rw [hx, ← h2, Int.sub_self, Int.mul_zero, Int.zero_mul]
        exact ray_fin (ray_8 hax hay hbx hby hpx hpy h1 h2 (by omega) (by omega) (by omega) w) (rcIn_cross_up hcr) (rcOn_down h1 (by omega) (by omega) hcr)
      · have hcr : (Px - Ax) * (By - Ay) ≠ (Py - Ay) * (Bx - Ax) := by rw [← h2, Int.sub_self, Int.mul_zero]; exact Int.mul_ne_zero (by omega) (by omega)
        rcases Int.lt_or_le Py Ay with ht | ht
        · rcases Int.lt_or_le By Py with hl | hl
          · exact ray_fin (ray_down_mid_eq_r hax hay hbx hby hpx hpy h1 h2 ⟨hl, ht⟩ hx b1 w) (rcIn_down_f (by omega) (.inr (.inr (down_gt_r (by omega) (by omega) (by omega) (by omega))))) (rcOn_ne hcr)
          · exact ray_fin (ray_down_low_eq_r hax hay hbx hby hpx hpy h1 h2 (by omega) hx b1 w) (rcIn_down_f (by omega) (.inr (.inr (down_gt_r (by omega) (by omega) (by omega) (by omega))))) (rcOn_ne hcr)
        · exact ray_fin (ray_down_top_eq_r hax hay hbx hby hpx hpy h1 h2 (by omega) hx b1 w) (rcIn_down_f (by omega) (.inl (by omega))) (rcOn_ne hcr)
    · by_cases hcr : (Px - Ax) * (By - Ay) = (Py - Ay) * (Bx - Ax)
      · exact ray_fin (ray_down_on_gt hax hay hbx hby hpx hpy h1 h2 ⟨by omega, by omega⟩ hcr b1 w) (rcIn_cross_up hcr) (rcOn_down h1 (by omega) (by omega) hcr)
      rcases Int.lt_or_le Py Ay with ht | ht
      · rcases Int.lt_or_le By Py with hl | hl
        · rcases Int.lt_or_le Bx Px with hx | hx
          · rcases Int.lt_or_le Px Ax with hy | hy
            · rcases Int.lt_or_le ((Py - By) * (Ax - Bx)) ((Ay - By) * (Px - Bx)) with hs | hs
              · exact ray_fin (ray_down_mid_gt_bf hax hay hbx hby hpx hpy h1 h2 ⟨hl, ht⟩ hx hy hs hcr b1 w) (rcIn_down_f (by omega) (.inr (.inr (by have := @down_slope Ax Ay Bx By Px Py; omega)))) (rcOn_ne hcr)
              · exact ray_fin (ray_down_mid_gt_bt hax hay hbx hby hpx hpy h1 h2 ⟨hl, ht⟩ hx hy hs hcr b1 w) (rcIn_down_t (by omega) (by omega) (by have := @down_slope Ax Ay Bx By Px Py; omega) hcr) (rcOn_ne hcr)
            · exact ray_fin (ray_down_mid_gt_r hax hay hbx hby hpx hpy h1 h2 ⟨hl, ht⟩ hy hcr b1 w) (rcIn_down_f (by omega) (.inr (.inr (down_gt_r (by omega) (by omega) (by omega) (by omega))))) (rcOn_ne hcr)
          · exact ray_fin (ray_down_mid_gt_l hax hay hbx hby hpx hpy h1 h2 ⟨hl, ht⟩ hx hcr b1 w) (rcIn_down_t (by omega) (by omega) (down_gt_l (by omega) (by omega) (by omega) (by omega)) hcr) (rcOn_ne hcr)
        · rcases Int.lt_or_le Bx Px with hx | hx
          · rcases Int.lt_or_le Px Ax with hy | hy
            · exact ray_fin (ray_down_low_gt_b hax hay hbx hby hpx hpy h1 h2 (by omega) hx hy hcr b1 w) (rcIn_down_f (by omega) (.inr (.inr (low_down_f (by omega) (by omega) (by omega))))) (rcOn_ne hcr)
            · exact ray_fin (ray_down_low_gt_r hax hay hbx hby hpx hpy h1 h2 (by omega) hy hcr b1 w) (rcIn_down_f (by omega) (.inr (.inr (down_gt_r (by omega) (by omega) (by omega) (by omega))))) (rcOn_ne hcr)
          · exact ray_fin (ray_down_low_gt_l hax hay hbx hby hpx hpy h1 h2 (by omega) hx hcr b1 w) (rcIn_down_t (by omega) (by omega) (down_gt_l (by omega) (by omega) (by omega) (by omega)) hcr) (rcOn_ne hcr)
      · exact ray_fin (ray_down_top_gt hax hay hbx hby hpx hpy h1 h2 (by omega) hcr b1 w) (rcIn_down_f (by omega) (.inl (by omega))) (rcOn_ne hcr)
end Go.Proofs.YtlpibeloedfbdaaGreat
