import Derived.Test.YtkldjceopjfjhaaPl
import Derived.Test.YtkldjceopjfjhaaVn
set_option linter.unusedSimpArgs false
set_option linter.unusedVariables false
/-! varyTo, spec.VaryBegun, spec.VaryArea. -/
namespace Go.Proofs.Ytkldjceopjfjhaa
open Go.RowKit PF JR
set_option maxHeartbeats 1000000 in
theorem varyTo_n (l : List (Int × Int)) (hl : l.length ≤ 2147483647) (v : Value) (w : World) (hv : SlP w v l) :
    Calls Try.prog 9 #[v] w fun e w' => ∃ v', e = .returned v' ∧ SlR w.heap.size w'.heap.size w' v' l ∧ Below w.heap.size w w' := by
  obtain ⟨A, c, rfl, hk⟩ := hv
  obtain ⟨i0, hi, hz0, hz1, hz2⟩ := info_parts infoP
  go_enter Try.func9, Try.ntmps9
  go_wp2
  go_loopw [3, 8] (fun v i wr => ∃ k : Nat, k ≤ l.length ∧ i = .int .i64 k ∧ wr.ownsRow w.heap.size 29 2 v k (cellsP (l.take k)) ∧ Below w.heap.size w wr) (fun _ i _ => l.length - (intOf i).toNat)
  case atStart => exact ⟨0, Nat.zero_le _, rfl, World.ownsRow_nil _ _ _ _, Below.refl _ _⟩
  case round =>
    obtain ⟨k, hkl, rfl, hown, hnx⟩ := hrel
    rcases Nat.lt_or_ge k l.length with hlt | hge
    · obtain ⟨p, hp⟩ : ∃ p, l[k]? = some p := ⟨l[k], by simp [hlt]⟩
      obtain ⟨b, off, rfl, h1, h2⟩ := hk k p hp
      have g1 := (hnx.cell (World.block_lt_of_cell? w _ h1)).trans h1
      have g2 := (hnx.cell (World.block_lt_of_cell? w _ h2)).trans h2
      clear h1 h2 hk
      go_wp2_with (first | (at_builtin; refine wpList_append_own _ rfl _ _ 22 rfl w.heap.size 29 i0 (.agg #[.int .i64 0, .int .i64 0]) 2 16 Try.underlying22 hi hz0 hz1 hz2 rfl (by decide) _ _ _ rfl ((hown.alloc _).alloc _) ⟨wr.heap.size + 1, 0, none⟩ 1 1 [.int .i64 p.1, .int .i64 p.2] rfl rfl ?c1 ?c2 ?c3 ?c4 ?c5 ?_))
      case c1 => exact two_cells _ _ _ _ _
      case c2 => intro u hu; simp at hu; rcases hu with rfl | rfl <;> rfl
      case c3 => unfold maxLen; omega
      case c4 => omega
      case c5 => have := hnx.size; simp; omega
      intro v' w1 hown' hgrow _
      have hB := row_below (((hnx.alloc hnx.size _).alloc (by have := hnx.size; simp; omega) _)) hgrow (fun g hg => (hown.lt g hg).1) (by have := hnx.size; simp; omega)
      rw [← cellsP_snoc l k p hp] at hown'
      clear hgrow hown hnx
      go_wp2
      go_roundw
      case rel => exact ⟨k + 1, by omega, by go_num, hown', hB⟩
      case measure => simp [intOf]; omega
    · have hkk : k = l.length := by omega
      subst hkk
      rw [List.take_length] at hown
      clear hk
      go_wp2
      go_ret
      exact ⟨_, rfl, SlR.own hown (Nat.le_refl _), hnx⟩

theorem wrap_in (n : Int) (h0 : -9223372036854775808 ≤ n) (h1 : n < 9223372036854775808) : IntKind.i64.wrap n = n := by
  unfold IntKind.wrap
  simp [IntKind.bits, IntKind.signed]
  omega
theorem mul2_bnd {x y : Int} {m n : Nat} (hx : x.natAbs ≤ m) (hy : y.natAbs ≤ n) : (x * y).natAbs ≤ m * n := mul_bnd hx hy
theorem area_bnd {l : List (Int × Int)} (h : ∀ p ∈ l, Bnd p) : ∀ k, (area l k).natAbs ≤ k * 2000000000000 := by
  intro k
  induction k with
  | zero => simp [area]
  | succ k ih =>
    have h1 := at_bnd h k
    have h2 := nx1_bnd h k
    have := mul_bnd h1.1 h2.2
    have := mul_bnd h2.1 h1.2
    simp only [area]
    omega
set_option maxRecDepth 100000 in
set_option maxHeartbeats 2000000 in
theorem vArea_c (l : List (Int × Int)) (hl : l.length ≤ 1000) (hbd : ∀ p ∈ l, Bnd p) (v : Value) (w : World) (hv : SlP w v l) :
    Calls Try.prog 11 #[v] w fun e w' => e = .returned (.int .i64 (area l l.length)) ∧ Below w.heap.size w w' := by
  obtain ⟨A, c, rfl, hk⟩ := hv
  go_enter Try.func11, Try.ntmps11
  go_wp2
  go_loopw [3, 9] (fun n i wr => ∃ k : Nat, k ≤ l.length ∧ i = .int .i64 k ∧ n = .int .i64 (area l k) ∧ Below w.heap.size w wr) (fun _ i _ => l.length - (intOf i).toNat)
  case atStart => exact ⟨0, Nat.zero_le _, rfl, rfl, Below.refl _ _⟩
  case round =>
    obtain ⟨k, hkl, rfl, rfl, hnx⟩ := hrel
    rcases Nat.lt_or_ge k l.length with hlt | hge
    · have hp := at_get hlt
      obtain ⟨b, off, rfl, h1, h2⟩ := hk k _ hp
      have g1 := (hnx.cell (World.block_lt_of_cell? w _ h1)).trans h1
      have g2 := (hnx.cell (World.block_lt_of_cell? w _ h2)).trans h2
      have e1 : nx1 l k = at' l (if k + 1 = l.length then 0 else k + 1) := by unfold nx1; split <;> rfl
      have hq : l[if k + 1 = l.length then 0 else k + 1]? = some (nx1 l k) := by rw [e1]; exact at_get (by split <;> omega)
      obtain ⟨b', off', e, h3, h4⟩ := hk _ _ hq
      cases e
      have g3 := (hnx.cell (World.block_lt_of_cell? w _ h3)).trans h3
      have g4 := (hnx.cell (World.block_lt_of_cell? w _ h4)).trans h4
      have ba := area_bnd hbd k
      have bp := at_bnd hbd k
      have bq := nx1_bnd hbd k
      have m1 := mul_bnd bp.1 bq.2
      have m2 := mul_bnd bq.1 bp.2
      have hk3 : k * 2000000000000 ≤ 1000 * 2000000000000 := Nat.mul_le_mul_right _ (by omega)
      have w1 : IntKind.i64.wrap ((at' l k).1 * (nx1 l k).2) = (at' l k).1 * (nx1 l k).2 := wrap_in _ (by omega) (by omega)
      have w2 : IntKind.i64.wrap ((nx1 l k).1 * (at' l k).2) = (nx1 l k).1 * (at' l k).2 := wrap_in _ (by omega) (by omega)
      have w3 : IntKind.i64.wrap ((at' l k).1 * (nx1 l k).2 - (nx1 l k).1 * (at' l k).2) = (at' l k).1 * (nx1 l k).2 - (nx1 l k).1 * (at' l k).2 := wrap_in _ (by omega) (by omega)
      have w4 : IntKind.i64.wrap (area l k + ((at' l k).1 * (nx1 l k).2 - (nx1 l k).1 * (at' l k).2)) = area l k + ((at' l k).1 * (nx1 l k).2 - (nx1 l k).1 * (at' l k).2) := wrap_in _ (by omega) (by omega)
      have ar : area l (k + 1) = area l k + ((at' l k).1 * (nx1 l k).2 - (nx1 l k).1 * (at' l k).2) := rfl
      clear h1 h2 h3 h4 hk ba bp bq m1 m2 hp hq e1 hbd
      generalize at' l k = p at *
      generalize nx1 l k = q at *
      have hb := World.block_lt_of_cell? _ _ g1
      have i1 : (k : Int) < (l.length : Int) := by omega
      rcases Nat.lt_or_ge (k + 1) l.length with h5 | h5
      · rw [if_neg (by omega)] at g3 g4
        have i2 : ((k : Int) + 1).tmod (l.length : Int) = (k : Int) + 1 := Int.tmod_eq_of_lt (by omega) (by omega)
        have i3 : (k : Int) + 1 < (l.length : Int) := by omega
        generalize l.length = n at *
        have hB := ((hnx.alloc hnx.size (.cells #[.int .i64 p.1, .int .i64 p.2] 36)).alloc (Nat.le_trans hnx.size (by simp)) (.cells #[.int .i64 q.1, .int .i64 q.2] 36))
        go_wp2
        go_roundw
        case rel => exact ⟨k + 1, by omega, by go_num, by rw [ar], hB⟩
        case measure => simp [intOf]; omega
      · have h6 : l.length = k + 1 := by omega
        rw [if_pos h6.symm] at g3 g4
        have i2 : ((k : Int) + 1).tmod (l.length : Int) = 0 := by rw [h6]; simp
        have i3 : (0 : Int) < (l.length : Int) := by omega
        have i4 : 0 < l.length := by omega
        clear h6 h5
        simp only [Nat.zero_mul, Nat.add_zero] at g3 g4
        generalize l.length = n at *
        have hB := ((hnx.alloc hnx.size (.cells #[.int .i64 p.1, .int .i64 p.2] 36)).alloc (Nat.le_trans hnx.size (by simp)) (.cells #[.int .i64 q.1, .int .i64 q.2] 36))
        go_wp2
        go_roundw
        case rel => exact ⟨k + 1, by omega, by go_num, by rw [ar], hB⟩
        case measure => simp [intOf]; omega
    · have hkk : k = l.length := by omega
      subst hkk
      clear hk
      go_wp2
      go_ret
      exact ⟨rfl, hnx⟩

theorem bgn_get (l : List (Int × Int)) (a : Nat) (back : Bool) (k : Nat) (hk : k < l.length) : (bgn l a back)[k]? = some (at' l (bgI l.length a back k)) := by
  rw [at_get (by rw [bgn_len]; exact hk), bgn_at _ _ _ _ hk]
set_option maxRecDepth 100000 in
set_option maxHeartbeats 2000000 in
theorem vBegun_c (l : List (Int × Int)) (a : Nat) (back : Bool) (hl : l.length ≤ 1000) (ha : a < l.length) (v : Value) (w : World) (hv : SlP w v l) :
    Calls Try.prog 10 #[v, .int .i64 a, .bool back] w fun e w' => ∃ v', e = .returned v' ∧ SlR w.heap.size w'.heap.size w' v' (bgn l a back) ∧ Below w.heap.size w w' := by
  have hbl := bgn_len l a back
  obtain ⟨A, c, rfl, hk⟩ := hv
  obtain ⟨i0, hi, hz0, hz1, hz2⟩ := info_parts infoVP
  go_enter Try.func10, Try.ntmps10
  go_wp2
  go_loopw [7, 12] (fun v i wr => ∃ k : Nat, k ≤ l.length ∧ i = .int .i64 k ∧ wr.ownsRow w.heap.size 36 2 v k (cellsP ((bgn l a back).take k)) ∧ Below w.heap.size w wr) (fun _ i _ => l.length - (intOf i).toNat)
  case atStart => exact ⟨0, Nat.zero_le _, rfl, World.ownsRow_nil _ _ _ _, Below.refl _ _⟩
  case round =>
    obtain ⟨k, hkl, rfl, hown, hnx⟩ := hrel
    have hsz := hnx.size
    rcases Nat.lt_or_ge k l.length with hlt | hge
    · have hp := bgn_get l a back k hlt
      have hj : bgI l.length a back k < l.length := by unfold bgI; split <;> exact Nat.mod_lt _ (by omega)
      have hq := at_get hj
      have i2 : ((a : Int) + (k : Int)).tmod (l.length : Int) = ((a + k) % l.length : Nat) := by rw [Int.tmod_eq_emod_of_nonneg (by omega)]; simp
      have i4 : ((a : Int) + (l.length : Int) - (k : Int)).tmod (l.length : Int) = ((a + l.length - k) % l.length : Nat) := by
        rw [Int.tmod_eq_emod_of_nonneg (by omega), show (a : Int) + (l.length : Int) - (k : Int) = ((a + l.length - k : Nat) : Int) from by omega]; simp
      have i5 : bgI l.length a back k = if back then (a + l.length - k) % l.length else (a + k) % l.length := rfl
      generalize hj' : bgI l.length a back k = j at *
      obtain ⟨b, off, rfl, h1, h2⟩ := hk j _ hq
      have g1 := (hnx.cell (World.block_lt_of_cell? w _ h1)).trans h1
      have g2 := (hnx.cell (World.block_lt_of_cell? w _ h2)).trans h2
      generalize at' l j = p at *
      have i6 : (j : Int) < (l.length : Int) := by omega
      have i7 : ((a : Int) + (k : Int)) < 9223372036854775807 := by omega
      clear h1 h2 hk hq hj'
      cases back with
      | false =>
        simp only [Bool.false_eq_true, if_false] at i5
        rw [← i5] at i2
        clear i4 i5
        generalize l.length = n at *
        go_wp2_with (first | (at_builtin; refine wpList_append_own _ rfl _ _ 25 rfl w.heap.size 36 i0 (.agg #[.int .i64 0, .int .i64 0]) 2 16 Try.underlying25 hi hz0 hz1 hz2 rfl (by decide) _ _ _ rfl (hown.alloc _) ⟨wr.heap.size, 0, none⟩ 1 1 [.int .i64 p.1, .int .i64 p.2] rfl rfl ?c1 ?c2 ?c3 ?c4 ?c5 ?_))
        case c1 => exact new_cells _ _ _ _
        case c2 => intro u hu; simp at hu; rcases hu with rfl | rfl <;> rfl
        case c3 => unfold maxLen; omega
        case c4 => omega
        case c5 => simp; omega
        intro v' w1 hown' hgrow _
        have hB := row_below (hnx.alloc hnx.size _) hgrow (fun g hg => (hown.lt g hg).1) (by simp; omega)
        rw [← cellsP_snoc _ k p hp] at hown'
        clear hgrow hown hnx
        go_wp2
        go_roundw
        case rel => exact ⟨k + 1, by omega, by go_num, hown', hB⟩
        case measure => simp [intOf]; omega
      | true =>
        simp only [if_true] at i5
        rw [← i5] at i4
        clear i5
        have i8 := Nat.mod_lt (a + k) (show 0 < l.length by omega)
        generalize (a + k) % l.length = j2 at *
        generalize l.length = n at *
        go_wp2_with (first | (at_builtin; refine wpList_append_own _ rfl _ _ 25 rfl w.heap.size 36 i0 (.agg #[.int .i64 0, .int .i64 0]) 2 16 Try.underlying25 hi hz0 hz1 hz2 rfl (by decide) _ _ _ rfl (hown.alloc _) ⟨wr.heap.size, 0, none⟩ 1 1 [.int .i64 p.1, .int .i64 p.2] rfl rfl ?c1 ?c2 ?c3 ?c4 ?c5 ?_))
        case c1 => exact new_cells _ _ _ _
        case c2 => intro u hu; simp at hu; rcases hu with rfl | rfl <;> rfl
        case c3 => unfold maxLen; omega
        case c4 => omega
        case c5 => simp; omega
        intro v' w1 hown' hgrow _
        have hB := row_below (hnx.alloc hnx.size _) hgrow (fun g hg => (hown.lt g hg).1) (by simp; omega)
        rw [← cellsP_snoc _ k p hp] at hown'
        clear hgrow hown hnx
        go_wp2
        go_roundw
        case rel => exact ⟨k + 1, by omega, by go_num, hown', hB⟩
        case measure => simp [intOf]; omega
    · have hkk : k = l.length := by omega
      subst hkk
      rw [← hbl, List.take_length] at hown
      clear hk
      go_wp2
      go_ret
      exact ⟨_, rfl, SlR.own (by rw [hbl] at hown ⊢; exact hown) (Nat.le_refl _), hnx⟩
end Go.Proofs.Ytkldjceopjfjhaa
