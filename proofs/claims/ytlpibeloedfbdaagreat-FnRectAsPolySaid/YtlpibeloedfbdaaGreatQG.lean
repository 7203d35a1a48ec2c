import Derived.Test.YtlpibeloedfbdaaGreatQB
import Derived.Test.YtlpibeloedfbdaaGreatPlane
import Derived.Test.YtlpibeloedfbdaaGreatQA
import Derived.Test.YtlpibeloedfbdaaGreatSr
import Derived.Test.YtlpibeloedfbdaaGreatRect
import Derived.Test.YtlpibeloedfbdaaGreatBlk
import Derived.Test.YtlpibeloedfbdaaGreatQS
import Derived.Test.YtlpibeloedfbdaaGreatMath
set_option linter.unusedSimpArgs false
set_option linter.unusedVariables false
/-! A point in a ring: the plain law. -/
namespace PF
/-- segment k of a ring is crossed by the ray from p; p is on it -/
def rin (l : List (Int × Int)) (p : Int × Int) (k : Nat) : Bool := rcIn (at' l k).1 (at' l k).2 (nxp l k).1 (nxp l k).2 p.1 p.2
def ron (l : List (Int × Int)) (p : Int × Int) (k : Nat) : Bool := rcOn (at' l k).1 (at' l k).2 (nxp l k).1 (nxp l k).2 p.1 p.2
/-- of the first n segments an odd number is crossed; p is on one -/
def xrs (l : List (Int × Int)) (p : Int × Int) : Nat → Bool
  | 0 => false
  | n + 1 => xrs l p n != rin l p n
def aon (l : List (Int × Int)) (p : Int × Int) : Nat → Bool
  | 0 => false
  | n + 1 => aon l p n || ron l p n
theorem aon_mono {l : List (Int × Int)} {p : Int × Int} {k : Nat} (h : aon l p k = true) : ∀ n, k ≤ n → aon l p n = true := by
  intro n
  induction n with
  | zero => intro hk; obtain rfl : k = 0 := by omega
            exact h
  | succ n ih =>
    intro hk
    rcases Nat.lt_or_ge n k with h1 | h1
    · obtain rfl : k = n + 1 := by omega
      exact h
    · simp [aon, ih h1]
theorem aon_none {l : List (Int × Int)} {p : Int × Int} : ∀ n, (∀ k, k < n → ron l p k = false) → aon l p n = false := by
  intro n
  induction n with
  | zero => intro _; rfl
  | succ n ih => intro h; simp [aon, ih (fun k hk => h k (by omega)), h n (by omega)]
theorem xrs_none {l : List (Int × Int)} {p : Int × Int} : ∀ n, (∀ k, k < n → rin l p k = false) → xrs l p n = false := by
  intro n
  induction n with
  | zero => intro _; rfl
  | succ n ih => intro h; simp [xrs, ih (fun k hk => h k (by omega)), h n (by omega)]
theorem rcIn_outy {Ax Ay Bx By Px Py : Int} (h : (Py < Ay ∧ Py < By) ∨ (Ay < Py ∧ By < Py)) : rcIn Ax Ay Bx By Px Py = false := by
  rw [rcIn, decide_eq_false_iff_not]; omega
theorem rcIn_right {Ax Ay Bx By Px Py : Int} (h1 : Ax ≤ Px) (h2 : Bx ≤ Px) : rcIn Ax Ay Bx By Px Py = false := by
  rcases Int.lt_trichotomy Ay By with h | h | h
  · refine rcIn_up_f h ?_
    rcases Int.lt_or_le Py Ay with g | g
    · exact .inr (.inl g)
    rcases Int.lt_or_le By Py with g2 | g2
    · exact .inl (by omega)
    refine .inr (.inr ?_)
    rcases Int.le_total Ax Bx with c | c
    · exact up_lt_r (by omega) c g2 h2
    · exact up_gt_r (by omega) c g h1
  · exact rcIn_flat h
  · refine rcIn_down_f h ?_
    rcases Int.lt_or_le Py By with g | g
    · exact .inr (.inl g)
    rcases Int.lt_or_le Ay Py with g2 | g2
    · exact .inl (by omega)
    refine .inr (.inr ?_)
    rcases Int.le_total Ax Bx with c | c
    · exact down_lt_r (by omega) c g h2
    · exact down_gt_r (by omega) c g2 h1
theorem rcIn_left {Ax Ay Bx By Px Py : Int} (h1 : Px < Ax) (h2 : Px < Bx) : rcIn Ax Ay Bx By Px Py = (decide (Ay ≤ Py) != decide (By ≤ Py)) := by
  have e1 : (By - Ay) * (Px + 1 - Ax) = (By - Ay) * (Px - Ax) + (By - Ay) := by
    rw [show Px + 1 - Ax = (Px - Ax) + 1 by omega, Int.mul_add, Int.mul_one]
  rw [rcIn]
  rcases Int.lt_trichotomy Ay By with h | h | h
  · rcases Int.lt_or_le Py Ay with g | g
    · rw [decide_eq_false (by omega), decide_eq_false (by omega), decide_eq_false (by omega)]; rfl
    rcases Int.lt_or_le Py By with g2 | g2
    · have k : (By - Ay) * (Px + 1 - Ax) ≤ (Py - Ay) * (Bx - Ax) := by
        rcases Int.le_total Ax Bx with c | c
        · exact up_lt_l (by omega) c g (by omega)
        · exact up_gt_l (by omega) c (by omega) (by omega)
      rw [decide_eq_true (.inl ⟨g, g2, by omega⟩), decide_eq_true g, decide_eq_false (by omega)]; rfl
    · rw [decide_eq_false (by omega), decide_eq_true g, decide_eq_true g2]; rfl
  · subst h
    rw [decide_eq_false (by omega)]; simp
  · rcases Int.lt_or_le Py By with g | g
    · rw [decide_eq_false (by omega), decide_eq_false (by omega), decide_eq_false (by omega)]; rfl
    rcases Int.lt_or_le Py Ay with g2 | g2
    · have k : (Py - Ay) * (Bx - Ax) ≤ (By - Ay) * (Px + 1 - Ax) := by
        rcases Int.le_total Ax Bx with c | c
        · exact down_lt_l (by omega) c (by omega) (by omega)
        · exact down_gt_l (by omega) c g (by omega)
      rw [decide_eq_true (.inr ⟨g, g2, by omega⟩), decide_eq_false (by omega), decide_eq_true g]; rfl
    · rw [decide_eq_false (by omega), decide_eq_true g2, decide_eq_true (show By ≤ Py by omega)]; rfl
/-- the rectangle around all holds each -/
theorem rbx_all (l : List (Int × Int)) : ∀ n k, k < n → (rbx l n).1 ≤ (sgx l k).1 ∧ (rbx l n).2.1 ≤ (sgx l k).2.1 ∧ (sgx l k).2.2.1 ≤ (rbx l n).2.2.1 ∧ (sgx l k).2.2.2 ≤ (rbx l n).2.2.2 := by
  intro n
  induction n with
  | zero => intro k h; omega
  | succ n ih =>
    intro k h
    simp only [rbx, ifz]
    rcases Nat.lt_or_ge k n with h1 | h1
    · obtain ⟨a, b, c, d⟩ := ih k h1
      rw [if_neg (by omega), if_neg (by omega), if_neg (by omega), if_neg (by omega)]
      omega
    · obtain rfl : k = n := by omega
      split <;> omega
/-- what the rectangle of the ray does not meet neither counts -/
theorem ron_hit {l : List (Int × Int)} {p : Int × Int} {k : Nat} (h : ¬ ((sgx l k).2.1 ≤ p.2 ∧ p.2 ≤ (sgx l k).2.2.2)) : ron l p k = false := by
  refine rcOn_out ?_
  unfold sgx at h
  dsimp only at h
  omega
theorem rin_hit {l : List (Int × Int)} {p : Int × Int} {k : Nat} (h : ¬ ((sgx l k).2.1 ≤ p.2 ∧ p.2 ≤ (sgx l k).2.2.2)) : rin l p k = false := by
  refine rcIn_outy ?_
  unfold sgx at h
  dsimp only at h
  omega
theorem nxp_mid {l : List (Int × Int)} {k : Nat} (h : k + 1 < l.length) : nxp l k = at' l (k + 1) := by
  unfold nxp; rw [if_neg (by omega)]
theorem nxp_end {l : List (Int × Int)} {k : Nat} (h : k + 1 = l.length) : nxp l k = at' l 0 := by
  unfold nxp; rw [if_pos (by omega)]
/-- left of all points the ray crosses an even number of the segments -/
theorem xrs_left {l : List (Int × Int)} {p : Int × Int} (h0 : 0 < l.length) (h : ∀ k, k < l.length → p.1 < (at' l k).1) : xrs l p l.length = false := by
  have key : ∀ k, k < l.length → xrs l p k = (decide ((at' l 0).2 ≤ p.2) != decide ((at' l k).2 ≤ p.2)) := by
    intro k
    induction k with
    | zero => intro _; simp [xrs]
    | succ k ih =>
      intro hk
      have e : rin l p k = (decide ((at' l k).2 ≤ p.2) != decide ((at' l (k + 1)).2 ≤ p.2)) := by
        unfold rin
        rw [nxp_mid hk]
        exact rcIn_left (h k (by omega)) (h (k + 1) hk)
      rw [xrs, ih (by omega), e]
      cases decide ((at' l 0).2 ≤ p.2) <;> cases decide ((at' l k).2 ≤ p.2) <;> cases decide ((at' l (k + 1)).2 ≤ p.2) <;> rfl
  obtain ⟨m, hm⟩ : ∃ m, l.length = m + 1 := ⟨l.length - 1, by omega⟩
  have e : rin l p m = (decide ((at' l m).2 ≤ p.2) != decide ((at' l 0).2 ≤ p.2)) := by
    unfold rin
    rw [nxp_end hm.symm]
    exact rcIn_left (h m (by omega)) (h 0 h0)
  rw [hm, xrs, key m (by omega), e]
  cases decide ((at' l 0).2 ≤ p.2) <;> cases decide ((at' l m).2 ≤ p.2) <;> rfl
/-- is p in a rectangle -/
def inB (b : Int × Int × Int × Int) (p : Int × Int) : Bool := decide (b.1 ≤ p.1 ∧ p.1 ≤ b.2.2.1 ∧ b.2.1 ≤ p.2 ∧ p.2 ≤ b.2.2.2)
theorem nxp_mem {l : List (Int × Int)} {k : Nat} (h : k < l.length) : ∃ j, j < l.length ∧ nxp l k = at' l j := by
  unfold nxp
  split
  · exact ⟨0, by omega, rfl⟩
  · exact ⟨k + 1, by omega, rfl⟩
theorem out_box {l : List (Int × Int)} {p : Int × Int} (h0 : 0 < l.length) (h : inB (box l) p = false) : aon l p l.length = false ∧ xrs l p l.length = false := by
  obtain ⟨hb, -⟩ := box_spec l h0
  have hk : ∀ k, k < l.length → (box l).1 ≤ (at' l k).1 ∧ (box l).2.1 ≤ (at' l k).2 ∧ (at' l k).1 ≤ (box l).2.2.1 ∧ (at' l k).2 ≤ (box l).2.2.2 := fun k hk => hb _ (List.mem_of_getElem? (at_get hk))
  have h := of_decide_eq_false h
  have hcase : p.1 < (box l).1 ∨ (box l).2.2.1 < p.1 ∨ p.2 < (box l).2.1 ∨ (box l).2.2.2 < p.2 := by omega
  refine ⟨aon_none _ fun k hkl => ?_, ?_⟩
  · obtain ⟨j, hj, e⟩ := nxp_mem hkl
    have a := hk k hkl
    have b := hk j hj
    unfold ron
    rw [e]
    rcases hcase with c | c | c | c
    · exact rcOn_outx (by omega)
    · exact rcOn_outx (by omega)
    · exact rcOn_out (by omega)
    · exact rcOn_out (by omega)
  · rcases hcase with c | c | c | c
    · exact xrs_left h0 fun k hkl => by have := hk k hkl; omega
    all_goals
      refine xrs_none _ fun k hkl => ?_
      obtain ⟨j, hj, e⟩ := nxp_mem hkl
      have a := hk k hkl
      have b := hk j hj
      unfold rin
      rw [e]
      first | exact rcIn_right (by omega) (by omega) | exact rcIn_outy (by omega)
open Go.Proofs.YtlpibeloedfbdaaGreat in
/-- the closing segment of a ring whose first point is its last counts nothing -/
theorem ring_all {l : List (Int × Int)} {p : Int × Int} (h3 : 3 ≤ l.length) : aon l p (nSeg true l) = aon l p l.length ∧ xrs l p (nSeg true l) = xrs l p l.length := by
  unfold nSeg
  rw [if_pos rfl, if_neg (by omega)]
  split
  · rename_i hc
    obtain ⟨m, hm⟩ : ∃ m, l.length = m + 1 := ⟨l.length - 1, by omega⟩
    have e : at' l m = at' l 0 := by
      unfold at'
      rw [List.getD_eq_getElem?_getD, List.getD_eq_getElem?_getD, ← hc, hm]
      rfl
    rw [hm, Nat.add_sub_cancel]
    have en : nxp l m = at' l 0 := nxp_end hm.symm
    constructor
    · rw [aon]
      cases hr : ron l p m with
      | false => simp
      | true =>
        have h0 : ron l p 0 = true := by
          unfold ron at hr ⊢
          rw [en, e] at hr
          rw [rcOn, decide_eq_true_eq] at hr ⊢
          obtain ⟨-, g1, g2⟩ := hr
          have a1 : p.1 = (at' l 0).1 := by omega
          have a2 : p.2 = (at' l 0).2 := by omega
          rw [a1, a2]
          refine ⟨by simp, by omega, by omega⟩
        have h1 : aon l p 1 = true := by simp [aon, h0]
        rw [aon_mono h1 m (by omega)]
        rfl
    · rw [xrs]
      have : rin l p m = false := by
        unfold rin
        rw [en, e]
        exact rcIn_flat rfl
      rw [this]
      simp
  · exact ⟨rfl, rfl⟩
end PF
set_option linter.unusedSimpArgs false
set_option linter.unusedVariables false
/-! Rectangles that a ray crosses: two infinite coordinates. -/
namespace Go.Proofs.YtlpibeloedfbdaaGreat
open Go.RowKit PF JR
def pinf : Nat := 9218868437227405312
def ninf : Nat := 18442240474082181120
theorem o_pinf {x : Nat} {a : Int} (h : Rep x a) : FloatKind.f64.format.order x pinf = some .lt := order_inf_right (s := false) h.fin
theorem pinf_o {x : Nat} {a : Int} (h : Rep x a) : FloatKind.f64.format.order pinf x = some .gt := order_inf_left (s := false) h.fin
theorem o_ninf {x : Nat} {a : Int} (h : Rep x a) : FloatKind.f64.format.order x ninf = some .gt := order_inf_right (s := true) h.fin
theorem ninf_o {x : Nat} {a : Int} (h : Rep x a) : FloatKind.f64.format.order ninf x = some .lt := order_inf_left (s := true) h.fin
theorem rir_ray {x0 y0 x1 y1 : Nat} {X0 Y0 X1 Y1 : Int} (h1 : Rep x0 X0) (h2 : Rep y0 Y0) (h3 : Rep x1 X1) (h4 : Rep y1 Y1) {y : Nat} {Y : Int} (k : Rep y Y) (w : World) :
    Calls Tryz.prog 25 #[.agg #[fl x0, fl y0, fl x1, fl y1], .agg #[fl ninf, fl y, fl pinf, fl y]] w fun e w' => e = .returned (.bool (decide (Y0 ≤ Y ∧ Y ≤ Y1))) ∧ Below w.heap.size w w' := by
  generalize hAns : decide (Y0 ≤ Y ∧ Y ≤ Y1) = ans
  have o1 := oR h2 k
  have o2 := oR h4 k
  have o3 := o_pinf h1
  have o4 := o_ninf h3
  generalize pinf = pi at *
  generalize ninf = ni at *
  go_enter Tryz.func25, Tryz.ntmps25
  go_wp2
  all_goals
    go_ret
    exact ⟨retB hAns (by simp; omega), (((Below.refl _ _).alloc (Nat.le_refl _) _).alloc (by simp) _)⟩
theorem ray_rir {x0 y0 x1 y1 : Nat} {X0 Y0 X1 Y1 : Int} (h1 : Rep x0 X0) (h2 : Rep y0 Y0) (h3 : Rep x1 X1) (h4 : Rep y1 Y1) {y : Nat} {Y : Int} (k : Rep y Y) (w : World) :
    Calls Tryz.prog 25 #[.agg #[fl ninf, fl y, fl pinf, fl y], .agg #[fl x0, fl y0, fl x1, fl y1]] w fun e w' => e = .returned (.bool (decide (Y0 ≤ Y ∧ Y ≤ Y1))) ∧ Below w.heap.size w w' := by
  generalize hAns : decide (Y0 ≤ Y ∧ Y ≤ Y1) = ans
  have o1 := oR k h4
  have o2 := oR k h2
  have o3 := ninf_o h3
  have o4 := pinf_o h1
  generalize pinf = pi at *
  generalize ninf = ni at *
  go_enter Tryz.func25, Tryz.ntmps25
  go_wp2
  all_goals
    go_ret
    exact ⟨retB hAns (by simp; omega), (((Below.refl _ _).alloc (Nat.le_refl _) _).alloc (by simp) _)⟩
end Go.Proofs.YtlpibeloedfbdaaGreat
set_option linter.unusedSimpArgs false
set_option linter.unusedVariables false
/-! containsPointSearcher. -/
namespace Go.Proofs.YtlpibeloedfbdaaGreat
open Go.RowKit PF JR
set_option maxRecDepth 100000 in
set_option maxHeartbeats 2000000 in
theorem cps_c (a b c d x y : Nat) (ri ro al i0 : Bool) (k : Int) (nb ib : Nat) (hne : nb ≠ ib) (x0 : Int) (u : World)
    (hray : ∀ u, Calls Tryz.prog 106 #[.agg #[fl a, fl b, fl c, fl d], .agg #[fl x, fl y]] u fun e w' => e = .returned (.agg #[.bool ri, .bool ro]) ∧ Below u.heap.size u w')
    (hn : u.heap[nb]? = some (.cells #[.bool i0] 4 (0, 0))) (hi : u.heap[ib]? = some (.cells #[.int .i64 x0] 3 (0, 0))) :
    Calls Tryz.prog 122 #[.agg #[fl x, fl y], .bool al, .pointer (some ⟨ib, 0, none⟩), .pointer (some ⟨nb, 0, none⟩), .agg #[fl a, fl b, fl c, fl d], .int .i64 k] u
      fun e u' => e = .returned (.bool (!ro)) ∧ u'.heap[nb]? = some (.cells #[.bool ((ro && al) || (!ro && (i0 != ri)))] 4 (0, 0)) ∧ (∃ x1 : Int, u'.heap[ib]? = some (.cells #[.int .i64 x1] 3 (0, 0))) ∧ Keep [nb, ib] u u' := by
  have st0 := ((Blk.nil u).push rfl #[fl x, fl y] 50).push (b := u.heap.size + 1) (by simp) #[fl a, fl b, fl c, fl d] 73
  have p0 := st0.cell 1 rfl 0
  have p1 := st0.cell 1 rfl 1
  have q0 := st0.cell 0 rfl 0
  have q1 := st0.cell 0 rfl 1
  have q2 := st0.cell 0 rfl 2
  have q3 := st0.cell 0 rfl 3
  simp only [List.getElem?_toArray, List.getElem?_cons_zero, List.getElem?_cons_succ] at p0 p1 q0 q1 q2 q3
  go_enter Tryz.func122, Tryz.ntmps122
  go_wp2_with (go_at_call 106; refine JR.StopM.out ?_)
  refine ⟨?_⟩
  refine (hray _).mono ?_
  rintro e w1 ⟨rfl, hb⟩
  have st1 := st0.ext hb
  have hB1 := (st1.hb.alloc st1.hb.size (.cells #[.bool ri, .bool ro] 163))
  have hn1 := (hB1.block nb (lt_of_some hn)).trans hn
  have hi1 := (hB1.block ib (lt_of_some hi)).trans hi
  have st2 := st1.push rfl #[.bool ri, .bool ro] 163
  have hK2 : Keep [nb, ib] u (w1.alloc (.cells #[.bool ri, .bool ro] 163)) := ⟨hB1.os, hB1.tape, hB1.output, hB1.size, fun j hj _ => hB1.block j hj⟩
  clear hb st0 p0 p1 q0 q1 q2 q3 hB1
  have r0 := st2.cell 0 rfl 0
  have r1 := st2.cell 0 rfl 1
  have n0 := cellAt hn1 0
  have i1 := cellAt hi1 0
  have fn := frozenAt hn1 0
  have fi := frozenAt hi1 0
  simp only [List.getElem?_toArray, List.getElem?_cons_zero, List.getElem?_cons_succ] at r0 r1 n0 i1
  have hne2 : ib ≠ nb := Ne.symm hne
  cases ro with
  | true =>
    go_wp2
    go_ret
    rw [setCell_row hn1]
    have hi2 := (JR.setRow_other (cells := (#[Value.bool i0].setIfInBounds 0 (Value.bool al))) hne2).trans hi1
    rw [setCell_row hi2]
    exact ⟨rfl, by rw [JR.setRow_other hne, setRow_same hn1]; cases al <;> rfl, ⟨k, setRow_same hi2⟩, (hK2.setRow (.inr (by simp))).setRow (.inr (by simp))⟩
  | false =>
    cases ri with
    | true =>
      go_wp2
      go_ret
      rw [setCell_row hn1]
      refine ⟨rfl, ?_, ⟨x0, (JR.setRow_other hne2).trans hi1⟩, hK2.setRow (.inr (by simp))⟩
      rw [setRow_same hn1]
      cases i0 <;> rfl
    | false =>
      go_wp2
      go_ret
      refine ⟨rfl, ?_, ⟨x0, hi1⟩, hK2⟩
      rw [hn1]
      cases i0 <;> rfl
/-- the closure -/
theorem cpc_c (a b c d x y : Nat) (ri ro al i0 : Bool) (k : Int) (pb ab nb ib : Nat) (hne : nb ≠ ib) (x0 : Int) (u : World)
    (hray : ∀ u, Calls Tryz.prog 106 #[.agg #[fl a, fl b, fl c, fl d], .agg #[fl x, fl y]] u fun e w' => e = .returned (.agg #[.bool ri, .bool ro]) ∧ Below u.heap.size u w')
    (hp : u.heap[pb]? = some (.cells #[fl x, fl y] 50 (0, 0))) (ha : u.heap[ab]? = some (.cells #[.bool al] 4 (0, 0)))
    (hn : u.heap[nb]? = some (.cells #[.bool i0] 4 (0, 0))) (hi : u.heap[ib]? = some (.cells #[.int .i64 x0] 3 (0, 0))) :
    Calls Tryz.prog 121 #[.agg #[fl a, fl b, fl c, fl d], .int .i64 k, .pointer (some ⟨pb, 0, none⟩), .pointer (some ⟨ab, 0, none⟩), .pointer (some ⟨ib, 0, none⟩), .pointer (some ⟨nb, 0, none⟩)] u
      fun e u' => e = .returned (.bool (!ro)) ∧ u'.heap[nb]? = some (.cells #[.bool ((ro && al) || (!ro && (i0 != ri)))] 4 (0, 0)) ∧ (∃ x1 : Int, u'.heap[ib]? = some (.cells #[.int .i64 x1] 3 (0, 0))) ∧ Keep [nb, ib] u u' := by
  have st0 := (Blk.nil u).push rfl #[fl a, fl b, fl c, fl d] 73
  have hB1 := st0.hb
  have q0 := st0.cell 0 rfl 0
  have q1 := st0.cell 0 rfl 1
  have q2 := st0.cell 0 rfl 2
  have q3 := st0.cell 0 rfl 3
  have hn1 := (hB1.block nb (lt_of_some hn)).trans hn
  have hi1 := (hB1.block ib (lt_of_some hi)).trans hi
  have p0 := cellAt ((hB1.block pb (lt_of_some hp)).trans hp) 0
  have p1 := cellAt ((hB1.block pb (lt_of_some hp)).trans hp) 1
  have a0 := cellAt ((hB1.block ab (lt_of_some ha)).trans ha) 0
  simp only [List.getElem?_toArray, List.getElem?_cons_zero, List.getElem?_cons_succ] at p0 p1 q0 q1 q2 q3 a0
  have hc := cps_c a b c d x y ri ro al i0 k nb ib hne x0 _ hray hn1 hi1
  have hK1 : ∀ w', Keep [nb, ib] (u.alloc (.cells #[fl a, fl b, fl c, fl d] 73)) w' → Keep [nb, ib] u w' := fun w' h => ⟨h.os.trans hB1.os, h.tape.trans hB1.tape, h.output.trans hB1.output, Nat.le_trans hB1.size h.size, fun j hj hx => (h.block j (Nat.lt_of_lt_of_le hj hB1.size) hx).trans (hB1.block j hj)⟩
  clear hray
  go_enter Tryz.func121, Tryz.ntmps121
  go_wp2_with (go_at_call 122; refine JR.StopM.out ?_)
  refine ⟨?_⟩
  refine hc.mono ?_
  rintro e w1 ⟨rfl, h1, h2, h3⟩
  go_wp2
  go_ret
  exact ⟨rfl, h1, h2, hK1 _ h3⟩
end Go.Proofs.YtlpibeloedfbdaaGreat
set_option linter.unusedSimpArgs false
set_option linter.unusedVariables false
/-! ringContainsPointBaseSeries: the search. -/
namespace Go.Proofs.YtlpibeloedfbdaaGreat
open Go.RowKit PF JR
/-- what Segment.Raycast says of segment k -/
def RayAt (l : List (Int × Int)) (p : Int × Int) (k : Nat) : Prop :=
  ∀ u : World, Calls Tryz.prog 106 #[.agg #[fl (fb (at' l k).1), fl (fb (at' l k).2), fl (fb (nxp l k).1), fl (fb (nxp l k).2)], .agg #[fl (fb p.1), fl (fb p.2)]] u fun e w' => e = .returned (.agg #[.bool (rin l p k), .bool (ron l p k)]) ∧ Below u.heap.size u w'
theorem ent140 (args : Array Value) (u : World) : (callFunc 121 args).run Tryz.prog u = .ok (.enter 121 args) u := by kernel_rfl
theorem nseg_len (closed : Bool) (l : List (Int × Int)) : nSeg closed l ≤ l.length := by
  unfold nSeg
  split
  · split
    · omega
    · split <;> omega
  · omega
theorem keep_ext {X : List Nat} {u w w' : World} (h : Keep X u w) (k : Keep X w w') : Keep X u w' :=
  ⟨k.os.trans h.os, k.tape.trans h.tape, k.output.trans h.output, Nat.le_trans h.size k.size, fun j hj hx => (k.block j (Nat.lt_of_lt_of_le hj h.size) hx).trans (h.block j hj hx)⟩
set_option maxHeartbeats 1000000 in
theorem ray_find (pb ab nb ib : Nat) (hne : nb ≠ ib) (al : Bool) (K : Nat) (hK : K ≤ 2) (l : List (Int × Int)) (hl : l.length ≤ 12) (h2l : 2 ≤ l.length) (hbd : ∀ p ∈ l, Bnd p) (p : Int × Int) (hpb : Bnd p)
    (hray : ∀ k, k < nSeg true l → RayAt l p k) (T : TypeId) (lo hi b : Nat) (u : World) (hS : SkP K true l T lo hi b u) (hhi : hi ≤ u.heap.size) (hnl : hi ≤ nb) (hil : hi ≤ ib) (hpn : pb ≠ nb ∧ pb ≠ ib ∧ ab ≠ nb ∧ ab ≠ ib)
    (hp : u.heap[pb]? = some (.cells #[fl (fb p.1), fl (fb p.2)] 50 (0, 0))) (ha : u.heap[ab]? = some (.cells #[.bool al] 4 (0, 0)))
    (hn : u.heap[nb]? = some (.cells #[.bool false] 4 (0, 0))) (x0 : Int) (hi0 : u.heap[ib]? = some (.cells #[.int .i64 x0] 3 (0, 0))) :
    Calls Tryz.prog 104 #[.pointer (some ⟨b, 0, none⟩), .agg #[fl ninf, fl (fb p.2), fl pinf, fl (fb p.2)], .func (.func 121) #[] #[.pointer (some ⟨pb, 0, none⟩), .pointer (some ⟨ab, 0, none⟩), .pointer (some ⟨ib, 0, none⟩), .pointer (some ⟨nb, 0, none⟩)]] u
      fun e w' => e = .returned (.tuple #[]) ∧ Keep [nb, ib] u w' ∧ w'.heap[nb]? = some (.cells #[.bool ((aon l p (nSeg true l) && al) || (!aon l p (nSeg true l) && xrs l p (nSeg true l)))] 4 (0, 0)) ∧ ∃ x1 : Int, w'.heap[ib]? = some (.cells #[.int .i64 x1] 3 (0, 0)) := by
  have hN := nseg_len true l
  obtain ⟨ix, v', g0, g1, g2, g3, g4⟩ := hS
  have key : ∀ k, Bd4 (sgx l k).1 (sgx l k).2.1 (sgx l k).2.2.1 (sgx l k).2.2.2 := fun k => sgx_bd hbd k
  obtain ⟨pb1, pb2⟩ := hpb
  have hmt : ∀ k u, Calls Tryz.prog 25 #[.agg #[fl (fb (sgx l k).1), fl (fb (sgx l k).2.1), fl (fb (sgx l k).2.2.1), fl (fb (sgx l k).2.2.2)], .agg #[fl ninf, fl (fb p.2), fl pinf, fl (fb p.2)]] u fun e u' => e = .returned (.bool (decide ((sgx l k).2.1 ≤ p.2 ∧ p.2 ≤ (sgx l k).2.2.2))) ∧ Below u.heap.size u u' := by
    intro k u
    obtain ⟨k1, k2, k3, k4⟩ := key k
    exact rir_ray (fb_rep _ (by omega)) (fb_rep _ (by omega)) (fb_rep _ (by omega)) (fb_rep _ (by omega)) (fb_rep _ (by omega)) u
  have H : SrchOk 121 #[.pointer (some ⟨pb, 0, none⟩), .pointer (some ⟨ab, 0, none⟩), .pointer (some ⟨ib, 0, none⟩), .pointer (some ⟨nb, 0, none⟩)] K true l T lo hi b ix v' (.agg #[fl ninf, fl (fb p.2), fl pinf, fl (fb p.2)]) (fun k => decide ((sgx l k).2.1 ≤ p.2 ∧ p.2 ≤ (sgx l k).2.2.2))
      (fun k w => Keep [nb, ib] u w ∧ w.heap[nb]? = some (.cells #[.bool (xrs l p k)] 4 (0, 0)) ∧ aon l p k = false ∧ ∃ x1 : Int, w.heap[ib]? = some (.cells #[.int .i64 x1] 3 (0, 0)))
      (fun w => Keep [nb, ib] u w ∧ w.heap[nb]? = some (.cells #[.bool al] 4 (0, 0)) ∧ aon l p (nSeg true l) = true ∧ ∃ x1 : Int, w.heap[ib]? = some (.cells #[.int .i64 x1] 3 (0, 0))) := by
    refine ⟨hl, h2l, ent140, hbd, ⟨g1, g2⟩, ?_, ?_, ?_, fun k u _ => hmt k u, ?_, ?_⟩
    · rintro k w ⟨hK, -⟩
      have hk : ∀ j, lo ≤ j → j < hi → w.heap[j]? = u.heap[j]? := fun j h1 h2 => hK.block j (by omega) (by simp; omega)
      exact ⟨g0.keep fun j h1 h2 _ => hk j h1 h2, (hk b g1 g2).trans g3, g4.keep hk⟩
    · rintro k w w' ⟨h1, h2, h3, x1, h4⟩ he
      exact ⟨h1.ext he, (he.block nb (lt_of_some h2)).trans h2, h3, x1, (he.block ib (lt_of_some h4)).trans h4⟩
    · rintro w w' ⟨h1, h2, h3, x1, h4⟩ he
      exact ⟨h1.ext he, (he.block nb (lt_of_some h2)).trans h2, h3, x1, (he.block ib (lt_of_some h4)).trans h4⟩
    · rintro k w hkN hit ⟨hKp, h2, h3, x1, h4⟩
      have hpw := (hKp.block pb (lt_of_some hp) (by simp; omega)).trans hp
      have haw := (hKp.block ab (lt_of_some ha) (by simp; omega)).trans ha
      refine (cpc_c (fb (at' l k).1) (fb (at' l k).2) (fb (nxp l k).1) (fb (nxp l k).2) (fb p.1) (fb p.2) (rin l p k) (ron l p k) al (xrs l p k) k pb ab nb ib hne x1 w (hray k hkN) hpw haw h2 h4).mono ?_
      rintro e w' ⟨rfl, q1, ⟨x2, q2⟩, q3⟩
      have hK3 := keep_ext hKp q3
      refine ⟨_, rfl, fun hc => ?_, fun hc => ?_, q3.size, fun j cs T hT hj => ?_⟩
      · have hr : ron l p k = false := by cases hh : ron l p k <;> simp_all
        rw [hr] at q1
        refine ⟨hK3, ?_, by rw [aon, h3, hr]; rfl, x2, q2⟩
        rw [q1, xrs]
        simp
      · have hr : ron l p k = true := by cases hh : ron l p k <;> simp_all
        rw [hr] at q1
        refine ⟨hK3, ?_, aon_mono (k := k + 1) (by rw [aon, hr]; simp) _ (by omega), x2, q2⟩
        rw [q1]
        simp
      · refine (q3.block j (lt_of_some hj) (fun h => ?_)).trans hj
        rcases List.mem_cons.1 h with rfl | h
        · rw [h2] at hj
          cases hj
          rcases hT with h | h <;> cases h
        · obtain rfl : j = ib := by simpa using h
          rw [h4] at hj
          cases hj
          rcases hT with h | h <;> cases h
    · rintro k w hkN hit ⟨h1, h2, h3, h4⟩
      have hit' := of_decide_eq_false hit
      refine ⟨h1, ?_, by rw [aon, h3, ron_hit hit']; rfl, h4⟩
      rw [h2, xrs, rin_hit hit']
      simp
  refine (search_c 121 _ K hK true l T lo hi b _ _ _ _ ix v' _ _ _ (decide ((rbx l (nSeg true l)).2.1 ≤ p.2 ∧ p.2 ≤ (rbx l (nSeg true l)).2.2.2)) H ?_ ?_ u ⟨Keep.refl _ _, hn, rfl, x0, hi0⟩).mono ?_
  · intro _ _ w
    obtain ⟨k1, k2, k3, k4⟩ := rbx_bd hbd (nSeg true l)
    exact ray_rir (fb_rep _ (by omega)) (fb_rep _ (by omega)) (fb_rep _ (by omega)) (fb_rep _ (by omega)) (fb_rep _ (by omega)) w
  · intro hf k hk
    obtain ⟨a, b, c, d⟩ := rbx_all l (nSeg true l) k hk
    have := of_decide_eq_false hf
    exact decide_eq_false (by omega)
  · rintro e w' ⟨rfl, h⟩
    refine ⟨rfl, ?_⟩
    rcases h with ⟨hK, h1, h2, h3⟩ | ⟨hK, h1, h2, h3⟩
    · refine ⟨hK, ?_, h3⟩
      rw [h1, h2]
      simp
    · refine ⟨hK, ?_, h3⟩
      rw [h1, h2]
      simp
end Go.Proofs.YtlpibeloedfbdaaGreat
set_option linter.unusedSimpArgs false
set_option linter.unusedVariables false
/-! ringContainsPointBaseSeries, ringContainsPoint: the walks. -/
namespace Go.Proofs.YtlpibeloedfbdaaGreat
open Go.RowKit PF JR
/-- what the search leaves in the closure's cell -/
def FindP (b R0 R1 R2 R3 px py : Nat) (al r : Bool) (w : World) : Prop :=
  ∀ (u : World) (pb ab nb ib : Nat) (x0 : Int), Below w.heap.size w u → nb ≠ ib → w.heap.size ≤ nb → w.heap.size ≤ ib → pb ≠ nb ∧ pb ≠ ib ∧ ab ≠ nb ∧ ab ≠ ib →
    u.heap[pb]? = some (.cells #[fl px, fl py] 50 (0, 0)) → u.heap[ab]? = some (.cells #[.bool al] 4 (0, 0)) →
    u.heap[nb]? = some (.cells #[.bool false] 4 (0, 0)) → u.heap[ib]? = some (.cells #[.int .i64 x0] 3 (0, 0)) →
    Calls Tryz.prog 104 #[.pointer (some ⟨b, 0, none⟩), .agg #[fl R0, fl R1, fl R2, fl R3], .func (.func 121) #[] #[.pointer (some ⟨pb, 0, none⟩), .pointer (some ⟨ab, 0, none⟩), .pointer (some ⟨ib, 0, none⟩), .pointer (some ⟨nb, 0, none⟩)]] u
      fun e w' => e = .returned (.tuple #[]) ∧ Keep [nb, ib] u w' ∧ w'.heap[nb]? = some (.cells #[.bool r] 4 (0, 0)) ∧ ∃ x1 : Int, w'.heap[ib]? = some (.cells #[.int .i64 x1] 3 (0, 0))
set_option maxRecDepth 100000 in
set_option maxHeartbeats 2000000 in
theorem rcbs_c (b R0 R1 R2 R3 px py : Nat) (al r : Bool) (w : World) (hfind : FindP b R0 R1 R2 R3 px py al r w) :
    Calls Tryz.prog 113 #[.agg #[fl R0, fl R1, fl R2, fl R3], .pointer (some ⟨b, 0, none⟩), .agg #[fl px, fl py], .bool al] w fun e w' => ∃ x : Int, e = .returned (.tuple #[.bool r, .int .i64 x]) ∧ Below w.heap.size w w' := by
  have st0 := ((((Blk.nil w).push rfl #[fl R0, fl R1, fl R2, fl R3] 52).push (b := w.heap.size + 1) (by simp) #[fl px, fl py] 50).push (b := w.heap.size + 2) (by simp) #[.bool al] 4).push (b := w.heap.size + 3) (by simp) #[.int .i64 0] 3
  have x0 := st0.cell 0 rfl 0
  have fx := st0.frozen 0 rfl 0
  have r0 := st0.cell 3 rfl 0
  have r1 := st0.cell 3 rfl 1
  have r2 := st0.cell 3 rfl 2
  have r3 := st0.cell 3 rfl 3
  simp only [List.getElem?_toArray, List.getElem?_cons_zero, List.getElem?_cons_succ] at x0 r0 r1 r2 r3
  go_enter Tryz.func113, Tryz.ntmps113
  go_wp2_with (go_at_call 104; refine JR.StopM.out ?_)
  refine ⟨?_⟩
  have st1 := (((((Blk.nil w).push rfl #[fl R0, fl R1, fl R2, fl R3] 52).push (b := w.heap.size + 1) (by simp) #[fl px, fl py] 50).push (b := w.heap.size + 1 + 1) (by simp) #[.bool al] 4).push (b := w.heap.size + 1 + 1 + 1) (by simp) #[.int .i64 (-1)] 3).push (b := w.heap.size + 1 + 1 + 1 + 1) (by simp) #[.bool false] 4
  clear st0 x0 fx r0 r1 r2 r3
  refine (hfind _ (w.heap.size + 1) (w.heap.size + 1 + 1) (w.heap.size + 1 + 1 + 1 + 1) (w.heap.size + 1 + 1 + 1) (-1) st1.hb (by omega) (by omega) (by omega) ⟨by omega, by omega, by omega, by omega⟩ (st1.known 3 _ rfl) (st1.known 2 _ rfl) (st1.known 0 _ rfl) (st1.known 1 _ rfl)).mono ?_
  rintro e w1 ⟨rfl, hK, h1, x1, h2⟩
  have hB := hK.belowX (B := w.heap.size) st1.hb st1.hb.size (by simp; omega)
  have n0 := cellAt h1 0
  have i0 := cellAt h2 0
  simp only [List.getElem?_toArray, List.getElem?_cons_zero, List.getElem?_cons_succ] at n0 i0
  clear st1 hK h1 h2 hfind
  go_upto_region 4 with (fail)
  go_quiet (fail)
  go_wp2
  go_ret2
  exact ⟨x1, rfl, below_drewN hB _⟩
set_option maxRecDepth 100000 in
set_option maxHeartbeats 4000000 in
/-- ringContainsPoint -/
theorem ringcp_c (b R0 R1 R2 R3 px py : Nat) (al q r : Bool) (w : World)
    (hrect : ∀ u, Below w.heap.size w u → Calls Tryz.prog 97 #[.pointer (some ⟨b, 0, none⟩)] u fun e w' => e = .returned (.agg #[fl R0, fl R1, fl R2, fl R3]) ∧ Below u.heap.size u w')
    (hin : ∀ u, Calls Tryz.prog 22 #[.agg #[fl R0, fl R1, fl R2, fl R3], .agg #[fl px, fl py]] u fun e w' => e = .returned (.bool q) ∧ Below u.heap.size u w')
    (hfind : ∀ u, Below w.heap.size w u → FindP b ninf py pinf py px py al r u) :
    Calls Tryz.prog 107 #[.iface 95 (.pointer (some ⟨b, 0, none⟩)), .agg #[fl px, fl py], .bool al] w fun e w' => ∃ x : Int, e = .returned (.agg #[.bool (q && r), .int .i64 x]) ∧ Below w.heap.size w w' := by
  have st0 := ((Blk.nil w).push rfl #[fl px, fl py] 50).push (b := w.heap.size + 1) (by simp) #[.bool false, .int .i64 0] 167
  go_enter Tryz.func107, Tryz.ntmps107
  go_wp2
  generalize hW : (w.alloc (.cells #[fl px, fl py] 50)).alloc (.cells #[.bool false, .int .i64 0] 167) = W at *
  refine wp_region_K [] [.val (.iface 95 (.pointer (some ⟨b, 0, none⟩))), .val (.agg #[fl R0, fl R1, fl R2, fl R3]), .val (.agg #[fl px, fl py]), .val (.bool q), .val (.bool (!q))]
    [[.ini 0], [.frm 0 12], [.ini 4], [.frm 1 13, .frm 2 14], [.frm 3 15]]
    mixed (by kernel_rfl) (by kernel_rfl) (allPre_of ⟨trivial, trivial, trivial, trivial, trivial, trivial⟩)
    ⟨OpOk.quiet rfl ?_, OpOk.call rfl ?_, OpOk.quiet rfl ?_, OpOk.call rfl ?_, OpOk.quiet rfl ?_, trivial⟩ ?_
  · intro a u _ hf
    simp [facts, Need.fact, Act.eval] at hf
    go_simp
  · intro a u hG hf
    simp [facts, Need.fact, Ent.val, Act.eval] at hf
    refine ⟨97, #[.pointer (some ⟨b, 0, none⟩)], by go_simp; kernel_rfl, (hrect u (hG.belowX st0.hb st0.hb.size (by simp))).mono ?_⟩
    rintro e w' ⟨rfl, hb⟩
    exact ⟨_, rfl, hb, rfl⟩
  · intro a u hG hf
    simp [facts, Need.fact, Act.eval] at hf
    have stu := st0.keep hG (fun i x _ => by simp) (fun x hx => by simp at hx)
    have y0 := stu.cell 1 rfl 0
    have y1 := stu.cell 1 rfl 1
    simp only [List.getElem?_toArray, List.getElem?_cons_zero, List.getElem?_cons_succ] at y0 y1
    go_simp
  · intro a u _ hf
    simp [facts, Need.fact, Ent.val, Act.eval] at hf
    refine ⟨_, _, by go_simp, (hin u).mono ?_⟩
    rintro e w' ⟨rfl, hb⟩
    exact ⟨_, rfl, hb, rfl⟩
  · intro a u _ hf
    simp [facts, Need.fact, Ent.val, Act.eval] at hf
    go_simp
  intro u lw hw wc hKp hE hI hD
  simp only [allE, Ent.val] at hE
  obtain ⟨u0, u1, u2, u3, u4, -⟩ := hE
  simp only [Nat.reduceAdd] at u0 u1 u2 u3 u4
  simp only [allPut, Act.put, Nat.reduceAdd, u0, u1, u2, u3, u4]
  try simp only [List.setIfInBounds_toArray, List.set_cons_zero, List.set_cons_succ]
  clear hI hD u0 u1 u2 u3 u4 hrect hin
  have st1 := st0.keep hKp (fun i x _ => by simp) (fun x hx => by simp at hx)
  clear st0 hKp hW
  have c0 := st1.cell 0 rfl 0
  have c1 := st1.cell 0 rfl 1
  have f0 := fun o => st1.frozen 0 rfl o
  have y0 := st1.cell 1 rfl 0
  have y1 := st1.cell 1 rfl 1
  simp only [List.getElem?_toArray, List.getElem?_cons_zero, List.getElem?_cons_succ] at c0 c1 y0 y1
  cases q with
  | false =>
    clear hfind
    go_wp2
    exact bodyPost_ret (v := .agg #[.bool false, .int .i64 (-1)]) (by simp [results, Tryz.results107, go_sem, c0, c1]) rfl ⟨-1, rfl, by
      iterate 2 refine Below.setCell ?_ (by show w.heap.size ≤ w.heap.size + 1; omega) _
      exact st1.hb⟩
  | true =>
    go_wp2
    refine wp_region_K [] [.val (fl ninf), .val (.pointer (some ⟨w.heap.size, 1, none⟩)), .val (fl py), .val (.agg #[fl ninf, fl py]), .val (fl pinf), .val (.pointer (some ⟨w.heap.size, 1, none⟩)), .val (fl py), .val (.agg #[fl pinf, fl py]),
        .val (.agg #[fl ninf, fl py, fl pinf, fl py]), .made 52 4, .filled 9 #[fl ninf, fl py, fl pinf, fl py] 52]
      [[], [.ini 4], [.frm 1 19], [.frm 0 18, .frm 2 20], [], [.ini 4], [.frm 5 23], [.frm 4 22, .frm 6 24], [.frm 3 21, .frm 7 25], [], [.frm 9 9, .frm 8 26]]
      mixed (by kernel_rfl) (by kernel_rfl) (allPre_of ⟨trivial, trivial, trivial, trivial, trivial, trivial, trivial, trivial, trivial, trivial, trivial, trivial⟩)
      ⟨OpOk.call rfl ?_, OpOk.quiet rfl ?_, OpOk.quiet rfl ?_, OpOk.quiet rfl ?_, OpOk.call rfl ?_, OpOk.quiet rfl ?_, OpOk.quiet rfl ?_, OpOk.quiet rfl ?_, OpOk.quiet rfl ?_,
        OpOk.made (cs := #[fl 0, fl 0, fl 0, fl 0]) rfl rfl ?_,
        OpOk.fillRow (k := 9) rfl rfl (by kernel_rfl) rfl (oldLt_of ⟨(fun _ h => (nomatch h)), (fun _ h => (nomatch h)), (fun _ h => (nomatch h)), (fun _ h => (nomatch h)), (fun _ h => (nomatch h)), (fun _ h => (nomatch h)), (fun _ h => (nomatch h)), (fun _ h => (nomatch h)), (fun _ h => (nomatch h)), (fun _ h => (nomatch h)), (fun _ h => (nomatch h)), trivial⟩) (by kernel_rfl) (by simp [Value.oneCell']) (fun a w hf => ⟨hf.1, hf.2.1.elim fun _ h => h.elim fun _ h => h⟩) (fun _ _ _ h hb => Keep.setRow h (.inl hb)), trivial⟩ ?_
    · intro a u _ hf
      refine ⟨_, _, by go_simp, (ninf_c u).mono ?_⟩
      rintro e w' ⟨rfl, rfl⟩
      exact ⟨_, rfl, Ext.refl _, rfl⟩
    · intro a u _ hf
      simp [facts, Need.fact, Act.eval] at hf
      go_simp
    · intro a u hG hf
      simp [facts, Need.fact, Ent.val, Act.eval] at hf
      have z1 := (hG.cell (p := ⟨w.heap.size, 1, none⟩) (st1.lt 1 rfl) (by simp)).trans y1
      go_simp
    · intro a u _ hf
      simp [facts, Need.fact, Ent.val, Act.eval] at hf
      go_simp
    · intro a u _ hf
      refine ⟨_, _, by go_simp, (inf_c u).mono ?_⟩
      rintro e w' ⟨rfl, rfl⟩
      exact ⟨_, rfl, Ext.refl _, rfl⟩
    · intro a u _ hf
      simp [facts, Need.fact, Act.eval] at hf
      go_simp
    · intro a u hG hf
      simp [facts, Need.fact, Ent.val, Act.eval] at hf
      have z1 := (hG.cell (p := ⟨w.heap.size, 1, none⟩) (st1.lt 1 rfl) (by simp)).trans y1
      go_simp
    · intro a u _ hf
      simp [facts, Need.fact, Ent.val, Act.eval] at hf
      go_simp
    · intro a u _ hf
      simp [facts, Need.fact, Ent.val, Act.eval] at hf
      go_simp
    · intro a u _ _
      go_simp
    intro u lw hw wd hKp hE hI hD
    simp [allE, allPut, Act.put, Act.eval, Ent.filledP, Ent.made, Ent.val] at hE
    obtain ⟨u0, u1, u2, u3, u4, u5, u6, u7, u8, ⟨b9, u9, l9, h9, -⟩, ⟨c9, v9, g9⟩⟩ := hE
    obtain rfl : b9 = c9 := by rw [u9] at v9; simpa using v9
    simp only [allPut, Act.put, u0, u1, u2, u3, u4, u5, u6, u7, u8, u9]
    try simp only [List.setIfInBounds_toArray, List.set_cons_zero, List.set_cons_succ]
    clear u0 u1 u2 u3 u4 u5 u6 u7 u8 u9 v9 hI hD l9 h9
    have st2 := (st1.keep hKp (fun i x _ => by simp) (fun x hx => by simp at hx)).add g9
    have hta : ∀ u, (Instr.typeAssert (.iface 95 (.pointer (some ⟨b, 0, none⟩))) 87 95 true).run Tryz.prog u = .ok (.tuple #[.pointer (some ⟨b, 0, none⟩), .bool true]) u := fun u => by kernel_rfl
    have d0 := st2.cell 0 rfl 0
    have d1 := st2.cell 0 rfl 1
    have d2 := st2.cell 0 rfl 2
    have d3 := st2.cell 0 rfl 3
    have e0 := st2.cell 2 rfl 0
    have e1 := st2.cell 2 rfl 1
    simp only [List.getElem?_toArray, List.getElem?_cons_zero, List.getElem?_cons_succ] at d0 d1 d2 d3 e0 e1
    have hc := fun u h => rcbs_c b ninf py pinf py px py al r u (hfind u h)
    clear st1 g9 hKp hfind c0 c1 f0 y0 y1
    go_wp2_with (go_at_call 113; refine JR.StopM.out ?_)
    refine ⟨?_⟩
    refine (hc _ st2.hb).mono ?_
    rintro e w2 ⟨x, rfl, hb⟩
    have st3 := st2.ext hb
    have c0 := st3.cell 1 rfl 0
    have c1 := st3.cell 1 rfl 1
    have f0 := fun o => st3.frozen 1 rfl o
    simp only [List.getElem?_toArray, List.getElem?_cons_zero, List.getElem?_cons_succ] at c0 c1
    clear hc hb st2 d0 d1 d2 d3 e0 e1 hta
    go_wp2
    exact bodyPost_ret (v := .agg #[.bool r, .int .i64 x]) (by simp [results, Tryz.results107, go_sem, c0, c1]) rfl ⟨x, by simp, by
      iterate 2 refine Below.setCell ?_ (by show w.heap.size ≤ w.heap.size + 1; omega) _
      exact st3.hb⟩
end Go.Proofs.YtlpibeloedfbdaaGreat
set_option linter.unusedSimpArgs false
set_option linter.unusedVariables false
/-! Poly.ContainsPoint, Poly.IntersectsPoint: a polygon without holes. -/
namespace Go.Proofs.YtlpibeloedfbdaaGreat
open Go.RowKit PF JR
theorem polyIP_c (n px py : Nat) (r : Bool) (w : World) (hcp : ∀ u, Below w.heap.size w u → Calls Tryz.prog 103 #[.pointer (some ⟨n, 0, none⟩), .agg #[fl px, fl py]] u fun e w' => e = .returned (.bool r) ∧ Below u.heap.size u w') :
    Calls Tryz.prog 101 #[.pointer (some ⟨n, 0, none⟩), .agg #[fl px, fl py]] w fun e w' => e = .returned (.bool r) ∧ Below w.heap.size w w' := by
  have st0 := (Blk.nil w).push rfl #[fl px, fl py] 50
  have y0 := st0.cell 0 rfl 0
  have y1 := st0.cell 0 rfl 1
  simp only [List.getElem?_toArray, List.getElem?_cons_zero, List.getElem?_cons_succ] at y0 y1
  go_enter Tryz.func101, Tryz.ntmps101
  go_wp2_with (go_at_call 103; refine JR.StopM.out ?_)
  refine ⟨?_⟩
  refine (hcp _ st0.hb).mono ?_
  rintro e w1 ⟨rfl, hb⟩
  have st1 := st0.ext hb
  go_wp2
  go_ret
  exact ⟨rfl, st1.hb⟩
end Go.Proofs.YtlpibeloedfbdaaGreat
set_option linter.unusedSimpArgs false
set_option linter.unusedVariables false
/-! shaped with any index; a series' rectangle. -/
namespace Go.Proofs.YtlpibeloedfbdaaGreat
open Go.RowKit PF JR
theorem skRect_c {K : Nat} {closed : Bool} {l : List (Int × Int)} {T : TypeId} {lo hi b : Nat} {w : World} (H : SkP K closed l T lo hi b w) :
    Calls Tryz.prog 97 #[.pointer (some ⟨b, 0, none⟩)] w fun e w' => e = .returned (.agg #[fl (fb (ppB closed l).1), fl (fb (ppB closed l).2.1), fl (fb (ppB closed l).2.2.1), fl (fb (ppB closed l).2.2.2)]) ∧ Below w.heap.size w w' := by
  obtain ⟨ix, v', -, -, -, h, -⟩ := H
  unfold serC at h
  generalize fb (ppB closed l).1 = r0 at *
  generalize fb (ppB closed l).2.1 = r1 at *
  generalize fb (ppB closed l).2.2.1 = r2 at *
  generalize fb (ppB closed l).2.2.2 = r3 at *
  have hlt := lt_of_some h
  have h' : (w.alloc (.cells #[fl 0, fl 0, fl 0, fl 0] 52)).heap[b]? = _ := (Below.heap_alloc w _ b hlt).trans h
  have x5 := cellAt h' 5
  have x6 := cellAt h' 6
  have x7 := cellAt h' 7
  have x8 := cellAt h' 8
  simp only [List.getElem?_toArray, List.getElem?_cons_zero, List.getElem?_cons_succ] at x5 x6 x7 x8
  go_enter Tryz.func97, Tryz.ntmps97
  go_wp2
  exact bodyPost_ret (v := .agg #[fl r0, fl r1, fl r2, fl r3]) (by simp [results, Tryz.results97, go_sem]) rfl ⟨rfl, by
    repeat first | exact Below.refl _ _ | refine Below.alloc ?_ (by simp <;> omega) _ | refine Below.setCell ?_ (by simp <;> omega) _⟩
end Go.Proofs.YtlpibeloedfbdaaGreat
set_option linter.unusedSimpArgs false
set_option linter.unusedVariables false
/-! A polygon without holes and a point. -/
namespace Go.Proofs.YtlpibeloedfbdaaGreat
open Go.RowKit PF JR
/-- what a ring says of a point -/
def ringHas (l : List (Int × Int)) (p : Int × Int) (al : Bool) : Bool := inB (ppB true l) p && ((aon l p (nSeg true l) && al) || (!aon l p (nSeg true l) && xrs l p (nSeg true l)))
theorem ppB_bd {l : List (Int × Int)} (h2l : 2 ≤ l.length) (hbd : ∀ p ∈ l, Bnd p) : BdR (ppB true l) := by
  unfold ppB
  split
  · unfold BdR Bd4; simp
  · obtain ⟨-, ⟨p1, a1, b1⟩, ⟨p2, a2, b2⟩, ⟨p3, a3, b3⟩, ⟨p4, a4, b4⟩⟩ := box_spec l (by omega)
    have c1 := hbd p1 a1; have c2 := hbd p2 a2; have c3 := hbd p3 a3; have c4 := hbd p4 a4
    unfold Bnd at c1 c2 c3 c4
    unfold BdR Bd4
    omega
theorem polyRing_c (al : Bool) (K : Nat) (hK : K ≤ 2) (l : List (Int × Int)) (hl : l.length ≤ 12) (h2l : 2 ≤ l.length) (hbd : ∀ p ∈ l, Bnd p) (p : Int × Int) (hpb : Bnd p)
    (hray : ∀ k, k < nSeg true l → RayAt l p k) (T : TypeId) (lo b : Nat) (w : World) (hS : SkP K true l T lo w.heap.size b w) (u : World) (hu : Below w.heap.size w u) :
    Calls Tryz.prog 107 #[.iface 95 (.pointer (some ⟨b, 0, none⟩)), .agg #[fl (fb p.1), fl (fb p.2)], .bool al] u fun e w' => ∃ x : Int, e = .returned (.agg #[.bool (ringHas l p al), .int .i64 x]) ∧ Below u.heap.size u w' := by
  obtain ⟨r1, r2, r3, r4⟩ := ppB_bd h2l hbd
  have hp := hpb
  obtain ⟨p1, p2⟩ := hpb
  have hsu := hS.below hu
  refine ringcp_c b (fb (ppB true l).1) (fb (ppB true l).2.1) (fb (ppB true l).2.2.1) (fb (ppB true l).2.2.2) (fb p.1) (fb p.2) al _ _ u (fun y hy => skRect_c (hsu.keep fun j _ h2 h3 => hy.block j h3)) (fun y => rcp_c (fb_rep _ (by omega)) (fb_rep _ (by omega)) (fb_rep _ (by omega)) (fb_rep _ (by omega)) (fb_rep _ (by omega)) (fb_rep _ (by omega)) y) ?_
  intro y hy z pb ab nb ib x0 hz hne hnb hib hpn h1 h2 h3 h4
  have s1 := hu.size
  have s2 := hy.size
  have s3 := hz.size
  have sy : SkP K true l T lo w.heap.size b y := hsu.keep fun j _ _ h3 => hy.block j h3
  have sz : SkP K true l T lo w.heap.size b z := sy.keep fun j _ _ h3 => hz.block j h3
  exact ray_find pb ab nb ib hne al K hK l hl h2l hbd p hp hray T lo w.heap.size b z sz (by omega) (by omega) (by omega) hpn h1 h2 h3 x0 h4
end Go.Proofs.YtlpibeloedfbdaaGreat
set_option linter.unusedSimpArgs false
set_option linter.unusedVariables false
/-! impl.Ask of a polygon without holes and a point. -/
namespace Go.Proofs.YtlpibeloedfbdaaGreat
open Go.RowKit PF JR
set_option maxHeartbeats 1000000 in
theorem cornerK_c (K : Int) (l : List (Int × Int)) (k : Nat) (p : Int × Int) (hp : l[k]? = some p) (hl : l.length ≤ 2147483647) (v vh : Value) (w : World) (hv : SlP w v l) :
    Calls Tryz.prog 17 #[.agg #[.int .i64 K, v, vh], .int .i64 k] w fun e w' => e = .returned (.agg #[.int .i64 p.1, .int .i64 p.2]) ∧ Below w.heap.size w w' := by
  obtain ⟨A, c, rfl, hk⟩ := hv
  obtain ⟨b, off, rfl, h1, h2⟩ := hk k p hp
  have hlt : k < l.length := by
    rcases Nat.lt_or_ge k l.length with h | h
    · exact h
    · rw [List.getElem?_eq_none h] at hp; cases hp
  have st0 := ((Blk.nil w).push rfl #[.int .i64 K, .slice (some ⟨b, off, none⟩) l.length c, vh] 28).push (b := w.heap.size + 1) (by simp) #[.int .i64 0, .int .i64 0] 23
  have g1 := (st0.hb.cell (World.block_lt_of_cell? w _ h1)).trans h1
  have g2 := (st0.hb.cell (World.block_lt_of_cell? w _ h2)).trans h2
  have d1 : (k : Int) < (l.length : Int) := by omega
  have d2 := decide_eq_true d1
  clear hk h1 h2 hp
  go_enter Tryz.func17, Tryz.ntmps17
  go_wp2
  exact bodyPost_ret (v := .agg #[.int .i64 p.1, .int .i64 p.2]) (by simp [results, Tryz.results17, go_sem]) rfl ⟨rfl, by
    repeat first | exact st0.hb | refine Below.setCell ?_ (by show w.heap.size ≤ w.heap.size + 1; omega) _ | exact Below.refl _ _ | refine Below.alloc ?_ (by simp <;> omega) _⟩

end Go.Proofs.YtlpibeloedfbdaaGreat
set_option linter.unusedSimpArgs false
set_option linter.unusedVariables false
/-! FnRaycastSum: joined with the plain law. -/
namespace Go.Proofs.YtlpibeloedfbdaaGreat
open Go.RowKit PF JR
end Go.Proofs.YtlpibeloedfbdaaGreat
