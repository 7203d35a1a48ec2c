import Derived.Test.YtlchljkmipejdaaGreatPts
set_option linter.unusedSimpArgs false
set_option linter.unusedVariables false
/-! Slices of slices of points; the guards of size. -/
namespace PF
open Go Go.RowKit JR
/-- the slice v holds slices of points -/
def SlH (w : World) (v : Value) (H : List (List (Int × Int))) : Prop :=
  ∃ A c, v = .slice A H.length c ∧ ∀ k h, H[k]? = some h → ∃ b off vh, A = some ⟨b, off, none⟩ ∧ w.cell? ⟨b, off + k, none⟩ = some vh ∧ SlP w vh h
theorem SlH.below {w w' : World} {v : Value} {H : List (List (Int × Int))} (h : SlH w v H) (hb : Below w.heap.size w w') : SlH w' v H := by
  obtain ⟨A, c, hv, hk⟩ := h
  refine ⟨A, c, hv, fun k x hx => ?_⟩
  obtain ⟨b, off, vh, h1, h2, h3⟩ := hk k x hx
  exact ⟨b, off, vh, h1, (hb.cell (World.block_lt_of_cell? w _ h2)).trans h2, h3.below hb⟩
theorem SlP.len {w : World} {v : Value} {l : List (Int × Int)} (h : SlP w v l) : ∃ A c, v = .slice A l.length c := by
  obtain ⟨A, c, hv, _⟩ := h
  exact ⟨A, c, hv⟩
end PF
namespace Go.Proofs.YtlchljkmipejdaaGreat
open Go.RowKit PF JR

set_option maxHeartbeats 1000000 in
theorem fits8_c (H : List (List (Int × Int))) (hH : H.length ≤ 9223372036854775807) (hl : ∀ h ∈ H, h.length ≤ 9223372036854775807) (v : Value) (w : World) (hv : SlH w v H) :
    Calls Tryz.prog 15 #[v] w fun e w' => e = .returned (.bool (decide (H.length ≤ 2147483647) && H.all fun h => decide (h.length ≤ 2147483647))) ∧ Below w.heap.size w w' := by
  obtain ⟨A, c, rfl, hk⟩ := hv
  generalize hAns : (decide (H.length ≤ 2147483647) && H.all fun h => decide (h.length ≤ 2147483647)) = ans
  by_cases h0 : H.length ≤ 2147483647
  · have d0 : ¬ (2147483647 : Int) < (H.length : Int) := by omega
    have d1 := decide_eq_false d0
    rw [decide_eq_true h0, Bool.true_and] at hAns
    go_enter Tryz.func15, Tryz.ntmps15
    go_wp2
    go_loopw [10] (fun i wr => ∃ k : Nat, k ≤ H.length ∧ i = .int .i64 k ∧ (∀ h ∈ H.take k, h.length ≤ 2147483647) ∧ Below w.heap.size w wr) (fun i _ => H.length - (intOf i).toNat)
    case atStart => exact ⟨0, Nat.zero_le _, rfl, by simp, Below.refl _ _⟩
    case round =>
      obtain ⟨k, hkl, rfl, hall, hnx⟩ := hrel
      rcases Nat.lt_or_ge k H.length with hlt | hge
      · obtain ⟨h, hh⟩ : ∃ h, H[k]? = some h := ⟨H[k], by simp [hlt]⟩
        obtain ⟨b, off, vh, rfl, h1, h2⟩ := hk k h hh
        obtain ⟨A', c', rfl⟩ := h2.len
        have g1 := (hnx.cell (World.block_lt_of_cell? w _ h1)).trans h1
        have hlen := hl h (List.mem_of_getElem? hh)
        clear h1 h2 hk
        by_cases hb : h.length ≤ 2147483647
        · have d2 : ¬ (2147483647 : Int) < (h.length : Int) := by omega
          have d3 := decide_eq_false d2
          go_wp2
          go_roundw
          case rel =>
            refine ⟨k + 1, by omega, by go_num, ?_, hnx⟩
            intro x hx
            rw [List.take_add_one, hh] at hx
            simp at hx
            rcases hx with hx | rfl
            · exact hall x hx
            · exact hb
          case measure => simp [intOf]; omega
        · have d2 : (2147483647 : Int) < (h.length : Int) := by omega
          have d3 := decide_eq_true d2
          have hans : ans = false := by
            rw [← hAns]
            cases hx : H.all fun h => decide (h.length ≤ 2147483647) with
            | false => rfl
            | true =>
              rw [List.all_eq_true] at hx
              exact absurd (of_decide_eq_true (hx h (List.mem_of_getElem? hh))) hb
          clear hAns hall
          go_wp2
          go_ret
          exact ⟨by rw [hans]; rfl, hnx⟩
      · have hkk : k = H.length := by omega
        subst hkk
        rw [List.take_length] at hall
        have hans : ans = true := by
          rw [← hAns, List.all_eq_true]
          exact fun x hx => decide_eq_true (hall x hx)
        clear hAns hall hk
        go_wp2
        go_ret
        exact ⟨by rw [hans]; rfl, hnx⟩
  · have d0 : (2147483647 : Int) < (H.length : Int) := by omega
    have d1 := decide_eq_true d0
    rw [decide_eq_false h0, Bool.false_and] at hAns
    subst hAns
    go_enter Tryz.func15, Tryz.ntmps15
    go_wp2
    go_ret
    exact ⟨rfl, Below.refl _ _⟩

set_option maxHeartbeats 1000000 in
theorem fits7_c (K : Int) (l : List (Int × Int)) (H : List (List (Int × Int))) (hl0 : l.length ≤ 9223372036854775807) (hH : H.length ≤ 9223372036854775807) (hl : ∀ h ∈ H, h.length ≤ 9223372036854775807) (v vh : Value) (w : World) (hv : SlP w v l) (hh : SlH w vh H) :
    Calls Tryz.prog 5 #[.agg #[.int .i64 K, v, vh]] w fun e w' => e = .returned (.bool (decide (l.length ≤ 2147483647) && (decide (H.length ≤ 2147483647) && H.all fun h => decide (h.length ≤ 2147483647)))) ∧ Below w.heap.size w w' := by
  obtain ⟨A, c, rfl⟩ := hv.len
  have st0 := (Blk.nil w).push rfl #[.int .i64 K, .slice A l.length c, vh] 27
  have hh' := hh.below st0.hb
  by_cases h0 : l.length ≤ 2147483647
  · have d0 : ¬ (2147483647 : Int) < (l.length : Int) := by omega
    have d1 := decide_eq_false d0
    rw [decide_eq_true h0, Bool.true_and]
    have c8 := fun w h => fits8_c H hH hl vh w h
    generalize (decide (H.length ≤ 2147483647) && H.all fun h => decide (h.length ≤ 2147483647)) = ans at *
    go_enter Tryz.func5, Tryz.ntmps5
    go_wp2_with (go_at_call 15; refine (c8 _ hh').mono ?_; rintro e w1 ⟨rfl, hb⟩)
    all_goals cases ans
    all_goals first | (exfalso; simp at *; done) | skip
    all_goals
      go_wp2
      go_ret
      exact ⟨rfl, st0.hb.trans (hb.mono (by simp))⟩
  · have d0 : (2147483647 : Int) < (l.length : Int) := by omega
    have d1 := decide_eq_true d0
    rw [decide_eq_false h0, Bool.false_and]
    go_enter Tryz.func5, Tryz.ntmps5
    go_wp2
    go_ret
    exact ⟨rfl, st0.hb⟩
end Go.Proofs.YtlchljkmipejdaaGreat
