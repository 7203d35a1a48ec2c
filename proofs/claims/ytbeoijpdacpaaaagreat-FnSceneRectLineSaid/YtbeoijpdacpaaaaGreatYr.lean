import Derived.Test.YtbeoijpdacpaaaaGreatYn
set_option linter.unusedSimpArgs false
set_option linter.unusedVariables false
/-! FnSceneRectLine: the walk. -/
namespace Go.Proofs.YtbeoijpdacpaaaaGreat
open Go.RowKit PF JR
theorem rsd_nn {l : List (Int × Int)} {p : Int × Int} : decide (0 ≤ rsd l p) = (aon l p (nSeg true l) || xrs l p (nSeg true l)) := by
  unfold rsd
  cases aon l p (nSeg true l) <;> cases xrs l p (nSeg true l) <;> decide
theorem phs_has {l : List (Int × Int)} (h3 : 3 ≤ l.length) (p : Int × Int) : phs l [] p = ringHas l p true := by
  unfold phs
  rw [rsd_nn, has_nobox h3]
  simp [anyN]
theorem scG_L {l m : List (Int × Int)} (h3 : 3 ≤ l.length) : scG l [] m = scL l m := by
  unfold scG scL
  congr 1
  funext i
  unfold scGi smB
  rw [phs_has h3]
  simp [anyN]
theorem okS_b {m : List (Int × Int)} (h : m.all okS = true) : (∀ p ∈ m, Bs p) ∧ ∀ p ∈ m, Bn3 p := by
  rw [List.all_eq_true] at h
  refine ⟨fun p hp => ?_, fun p hp => ?_⟩ <;> have := of_decide_eq_true (h p hp)
  · unfold Bs; omega
  · unfold Bn3; omega
theorem isc_le {l : List (Int × Int)} {n : Int} (h : iscB l n = true) : (l.length : Int) ≤ n ∧ l.all okS = true := by
  unfold iscB at h
  rw [Bool.and_eq_true, decide_eq_true_iff] at h
  exact h
set_option maxRecDepth 100000 in
set_option maxHeartbeats 2000000 in
theorem rlw_c (a b c d : Int) (m : List (Int × Int)) (hm0 : m.length ≤ 9223372036854775807) (v : Value) (w : World) (hv : SlP w v m) :
    Calls Tryz.prog 12 #[.agg #[.int .i64 a, .int .i64 b, .int .i64 c, .int .i64 d], v] w fun e w' => e = .returned (.bool true) ∧ Below w.heap.size w w' := by
  obtain ⟨A, cc, rfl, -⟩ := id hv
  have st0 := (Blk.nil w).push rfl #[.int .i64 a, .int .i64 b, .int .i64 c, .int .i64 d] 42
  have hv0 := hv.below st0.hb
  have hisc := fun u hu => isc_c m 8 hm0 (.slice A m.length cc) u hu
  have hisr := fun u => isr_c a b c d u
  by_cases c1 : (m.length : Int) > 2147483647
  · have d1 := decide_eq_true c1
    clear hisc hisr
    generalize m.length = n at *
    go_enter Tryz.func12, Tryz.ntmps12
    go_wp2
    go_ret
    exact ⟨rfl, st0.hb⟩
  have d1 := decide_eq_false c1
  have c1' : ¬ 2147483647 < (m.length : Int) := by omega
  have hsl := fun u hu => scLn_n m (by omega) (.slice A m.length cc) u hu
  have hgo : ∀ (h2 : ¬ (m.length : Int) < 2) (h8 : iscB m 8 = true) (hr : isrB a b c d = true), ∀ u v1 v2, SlP u v1 [(a, b), (c, d)] → SlP u v2 m → ∃ c1 c2 i,
      (∀ z, Below u.heap.size u z → Calls Tryz.prog 21 #[.agg #[.int .i64 1, v1, .slice none 0 0], .agg #[.int .i64 2, v2, .slice none 0 0], .int .i64 0, .int .i64 0] z fun e w' => e = .returned (.tuple #[.bool c1, .bool i]) ∧ Below z.heap.size z w') ∧
      (∀ z, Below u.heap.size u z → Calls Tryz.prog 21 #[.agg #[.int .i64 2, v2, .slice none 0 0], .agg #[.int .i64 1, v1, .slice none 0 0], .int .i64 0, .int .i64 0] z fun e w' => e = .returned (.tuple #[.bool c2, .bool i]) ∧ Below z.heap.size z w') ∧ i = scG (crn a b c d) [] m := by
    intro h2 h8 hr u v1 v2 s1 s2
    obtain ⟨h8, hok⟩ := isc_le h8
    unfold isrB at hr
    rw [Bool.and_eq_true, Bool.and_eq_true, decide_eq_true_iff, decide_eq_true_iff] at hr
    obtain ⟨hr1, hr2, hr3⟩ := hr
    obtain ⟨-, hrok⟩ := isc_le hr1
    have ok1 : ShOk 1 [(a, b), (c, d)] [] := ⟨(okS_b hrok).2, by simp, by simp, .inr (.inl ⟨rfl, a, b, c, d, rfl, hr2, hr3⟩)⟩
    have ok2 : ShOk 2 m [] := ⟨(okS_b hok).2, by simp, by simp, .inr (.inr (.inl ⟨rfl, by omega, by omega⟩))⟩
    have e1 : mtV 1 [(a, b), (c, d)] [] 2 m [] = rilV (rl a b c d) m := by
      simp [mtV, byK, rll, at']
    have e2 : mtV 2 m [] 1 [(a, b), (c, d)] [] = rilV (rl a b c d) m := by
      simp [mtV, byK, at']
    have e3 := ril_scL hr2 hr3 m (by omega)
    rw [← scG_L (by simp [crn])] at e3
    rw [e3] at e1 e2
    refine ⟨hdS 1 [(a, b), (c, d)] [] 2 m [], hdS 2 m [] 1 [(a, b), (c, d)] [], _, fun z hz => ?_, fun z hz => ?_, rfl⟩
    · rw [← e1]
      exact ask_sc (X := 0) (by omega) 1 _ _ ok1 2 _ _ (.inr (.inl rfl)) ok2 _ _ _ _ z (s1.below hz) (SlH_nil _ 0 none) (s2.below hz) (SlH_nil _ 0 none)
    · rw [← e2]
      exact ask_sc (X := 0) (by omega) 2 _ _ ok2 1 _ _ (.inr (.inr (.inl ⟨rfl, by decide, fun h => by cases h⟩))) ok1 _ _ _ _ z (s2.below hz) (SlH_nil _ 0 none) (s1.below hz) (SlH_nil _ 0 none)
  have hsc : ∀ (h8 : iscB m 8 = true) (hr : isrB a b c d = true) u v1, SlP u v1 (crn a b c d) → SlP u (.slice A m.length cc) m → Calls Tryz.prog 35 #[.agg #[v1, .slice none 0 0], .slice A m.length cc] u fun e w' => e = .returned (.bool (scG (crn a b c d) [] m)) ∧ Below u.heap.size u w' := by
    intro h8 hr u v1 s1 s2
    obtain ⟨h8, hok⟩ := isc_le h8
    unfold isrB at hr
    rw [Bool.and_eq_true] at hr
    obtain ⟨-, hrok⟩ := isc_le hr.1
    have hb := of_decide_eq_true (List.all_eq_true.1 hrok (a, b) (by simp))
    have hd := of_decide_eq_true (List.all_eq_true.1 hrok (c, d) (by simp))
    simp only at hb hd
    refine scG_c (crn a b c d) [] m (by simp [crn, Bs]; omega) (fun k p hp => by simp at hp) (okS_b hok).1 (by simp [crn]) (by simp) (by simp) (by omega) _ _ _ u s1 (SlH_nil _ 0 none) s2
  clear hm0
  generalize hans : scG (crn a b c d) [] m = ans at *
  cases hr : isrB a b c d with
  | false =>
    simp only [hr] at hisr
    clear hgo hsc hisc hsl
    generalize m.length = n at *
    go_enter Tryz.func12, Tryz.ntmps12
    go_wp2_with (go_at_call 23; refine JR.StopY.out ?_)
    refine ⟨?_⟩
    refine (hisr _).mono ?_
    rintro e w1 ⟨rfl, hb⟩
    have st1 := st0.ext hb
    go_wp2
    go_ret
    exact ⟨rfl, st1.hb⟩
  | true =>
  simp only [hr] at hisr
  by_cases h2 : (m.length : Int) < 2
  · have d2 := decide_eq_true h2
    clear hgo hsc hisc hsl
    generalize m.length = n at *
    go_enter Tryz.func12, Tryz.ntmps12
    go_wp2_with (go_at_call 23; refine JR.StopY.out ?_)
    refine ⟨?_⟩
    refine (hisr _).mono ?_
    rintro e w1 ⟨rfl, hb⟩
    have st1 := st0.ext hb
    go_wp2
    go_ret
    exact ⟨rfl, st1.hb⟩
  have d2 := decide_eq_false h2
  cases h8 : iscB m 8 with
  | false =>
    simp only [h8] at hisc
    clear hgo hsc hsl
    generalize m.length = n at *
    go_enter Tryz.func12, Tryz.ntmps12
    go_wp2_with (go_at_call 23; refine JR.StopY.out ?_)
    refine ⟨?_⟩
    refine (hisr _).mono ?_
    rintro e w1 ⟨rfl, hb⟩
    have st1 := st0.ext hb
    clear hb
    go_wp2_with (go_at_call 17; refine JR.StopY.out ?_)
    refine ⟨?_⟩
    refine (hisc _ (hv.below st1.hb)).mono ?_
    rintro e w2 ⟨rfl, hb⟩
    have st2 := st1.ext hb
    go_wp2
    go_ret
    exact ⟨rfl, st2.hb⟩
  | true =>
  simp only [h8] at hisc
  have hgo' := hgo h2 h8 hr
  have hsc' := hsc h8 hr
  clear hans h8 hr hgo hsc
  generalize m.length = n at *
  go_enter Tryz.func12, Tryz.ntmps12
  go_wp2_with (go_at_call 23; refine JR.StopY.out ?_)
  refine ⟨?_⟩
  refine (hisr _).mono ?_
  rintro e w1 ⟨rfl, hb⟩
  have st1 := st0.ext hb
  clear hb st0 hv0 hisr
  go_wp2_with (go_at_call 17; refine JR.StopY.out ?_)
  refine ⟨?_⟩
  refine (hisc _ (hv.below st1.hb)).mono ?_
  rintro e w2 ⟨rfl, hb⟩
  have st2 := st1.ext hb
  clear hb st1 hisc
  have x0 := st2.cell 0 rfl 0
  have x1 := st2.cell 0 rfl 1
  have x2 := st2.cell 0 rfl 2
  have x3 := st2.cell 0 rfl 3
  simp only [List.getElem?_toArray, List.getElem?_cons_zero, List.getElem?_cons_succ] at x0 x1 x2 x3
  go_wp2_with (go_at_call 24; refine JR.StopY.out ?_)
  refine ⟨?_⟩
  refine (scRc_n a b c d _).mono ?_
  rintro e w3 ⟨v1, rfl, hs1, hb⟩
  have st3 := st2.ext hb
  clear hb st2 x0 x1 x2 x3
  obtain ⟨A1, k1, rfl, -⟩ := id hs1
  go_wp2_with (go_at_call 20; refine JR.StopY.out ?_)
  refine ⟨?_⟩
  refine (hsl _ (hv.below st3.hb)).mono ?_
  rintro e w4 ⟨v2, rfl, hs2, hb⟩
  have st4 := st3.ext hb
  have hs1 := hs1.below hb
  clear hb st3 hsl
  obtain ⟨A2, k2, rfl, -⟩ := id hs2
  obtain ⟨q1, q2, i, ha1, ha2, hi⟩ := hgo' w4 _ _ hs1 hs2
  go_wp2_with (go_at_call 31; refine JR.StopY.out ?_)
  refine ⟨?_⟩
  refine (mee_c 1 2 A1 none A2 none _ _ _ _ k1 0 k2 0 q1 i q2 i w4 ha1 ha2).mono ?_
  rintro e w5 ⟨rfl, hb⟩
  have st5 := st4.ext hb
  clear hb st4 hgo' ha1 ha2 hs1 hs2
  have hii : (i == i) = true := by cases i <;> rfl
  have x0 := st5.cell 0 rfl 0
  have x1 := st5.cell 0 rfl 1
  have x2 := st5.cell 0 rfl 2
  have x3 := st5.cell 0 rfl 3
  simp only [List.getElem?_toArray, List.getElem?_cons_zero, List.getElem?_cons_succ] at x0 x1 x2 x3
  go_wp2_with (go_at_call 37; refine JR.StopY.out ?_)
  refine ⟨?_⟩
  refine (rpo_n a b c d _).mono ?_
  rintro e w6 ⟨v3, rfl, hs3, hb⟩
  have st6 := st5.ext hb
  clear hb st5 x0 x1 x2 x3
  obtain ⟨A3, k3, rfl, -⟩ := id hs3
  go_wp2_with (go_at_call 35; refine JR.StopY.out ?_)
  refine ⟨?_⟩
  refine (hsc' _ _ hs3 (hv.below st6.hb)).mono ?_
  rintro e w7 ⟨rfl, hb⟩
  have st7 := st6.ext hb
  clear hb st6 hsc' hs3
  subst hi
  go_wp2_with (go_at_call 22; refine JR.StopY.out ?_)
  refine ⟨?_⟩
  refine (awk_c _).mono ?_
  rintro e w8 ⟨rfl, hb⟩
  have st8 := st7.ext hb
  clear hb st7
  go_wp2
  go_ret
  exact ⟨rfl, st8.hb⟩
end Go.Proofs.YtbeoijpdacpaaaaGreat
