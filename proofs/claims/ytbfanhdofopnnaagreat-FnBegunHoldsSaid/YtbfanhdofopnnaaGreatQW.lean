import Derived.Test.YtbfanhdofopnnaaGreatLk
import Derived.Test.YtbfanhdofopnnaaGreatHp
import Derived.Test.YtbfanhdofopnnaaGreatQP
import Derived.Test.YtbfanhdofopnnaaGreatQA
import Derived.Test.YtbfanhdofopnnaaGreatQN
import Derived.Test.YtbfanhdofopnnaaGreatPt
import Derived.Test.YtbfanhdofopnnaaGreatHw
set_option linter.unusedSimpArgs false
set_option linter.unusedVariables false
/-! What shapes say of one another does not change when all are turned: plain. -/
namespace PF
section
variable {K S DX DY : Int}
theorem kinds (hK : 0 ≤ K ∧ K ≤ 7) : K = 0 ∨ K = 1 ∨ K = 2 ∨ K = 3 ∨ K = 4 ∨ K = 5 ∨ K = 6 ∨ K = 7 := by omega
theorem tpt_inj2 (hK : 0 ≤ K ∧ K ≤ 7) (hS : 0 < S) (a b : Int × Int) (h : tpt K S DX DY a = tpt K S DX DY b) : a = b := by
  obtain ⟨ax, ay⟩ := a
  obtain ⟨bx, b_y⟩ := b
  have a1 := mulS_le (a := ax) (b := bx) hS
  have a2 := mulS_le (a := bx) (b := ax) hS
  have a3 := mulS_le (a := ay) (b := b_y) hS
  have a4 := mulS_le (a := b_y) (b := ay) hS
  rcases kinds hK with rfl | rfl | rfl | rfl | rfl | rfl | rfl | rfl <;> simp only [tpt0, tpt1, tpt2, tpt3, tpt4, tpt5, tpt6, tpt7, Prod.mk.injEq] at h ⊢ <;> omega
theorem tpt_eq (hK : 0 ≤ K ∧ K ≤ 7) (hS : 0 < S) (a b : Int × Int) : ((tpt K S DX DY a).1 = (tpt K S DX DY b).1 ∧ (tpt K S DX DY a).2 = (tpt K S DX DY b).2) ↔ (a.1 = b.1 ∧ a.2 = b.2) := by
  constructor
  · rintro ⟨h1, h2⟩
    rw [tpt_inj2 hK hS a b (Prod.ext h1 h2)]
    exact ⟨rfl, rfl⟩
  · rintro ⟨h1, h2⟩
    rw [Prod.ext h1 h2]
    exact ⟨rfl, rfl⟩
/-- two segments' boxes lie apart -/
def apt (a b c d : Int × Int) : Prop :=
  ((a.2 < c.2 ∧ a.2 < d.2 ∧ b.2 < c.2 ∧ b.2 < d.2) ∨ (c.2 < a.2 ∧ c.2 < b.2 ∧ d.2 < a.2 ∧ d.2 < b.2)) ∨ ((a.1 < c.1 ∧ a.1 < d.1 ∧ b.1 < c.1 ∧ b.1 < d.1) ∨ (c.1 < a.1 ∧ c.1 < b.1 ∧ d.1 < a.1 ∧ d.1 < b.1))
instance (a b c d : Int × Int) : Decidable (apt a b c d) := by unfold apt; infer_instance
/-- a box whose sides are in order -/
def Bxo (b : Int × Int × Int × Int) : Prop := b.1 ≤ b.2.2.1 ∧ b.2.1 ≤ b.2.2.2
set_option maxHeartbeats 4000000 in
theorem mbx_of (hK : 0 ≤ K ∧ K ≤ 7) (hS : 0 < S) (b : Int × Int × Int × Int) (h : Bxo b) : mbx K S DX DY b = (if K = 0 then (b.1 * S + DX, b.2.1 * S + DY, b.2.2.1 * S + DX, b.2.2.2 * S + DY) else if K = 1 then (-(b.2.2.2 * S) + DX, b.1 * S + DY, -(b.2.1 * S) + DX, b.2.2.1 * S + DY)
    else if K = 2 then (-(b.2.2.1 * S) + DX, -(b.2.2.2 * S) + DY, -(b.1 * S) + DX, -(b.2.1 * S) + DY) else if K = 3 then (b.2.1 * S + DX, -(b.2.2.1 * S) + DY, b.2.2.2 * S + DX, -(b.1 * S) + DY)
    else if K = 4 then (-(b.2.2.1 * S) + DX, b.2.1 * S + DY, -(b.1 * S) + DX, b.2.2.2 * S + DY) else if K = 5 then (-(b.2.2.2 * S) + DX, -(b.2.2.1 * S) + DY, -(b.2.1 * S) + DX, -(b.1 * S) + DY)
    else if K = 6 then (b.1 * S + DX, -(b.2.2.2 * S) + DY, b.2.2.1 * S + DX, -(b.2.1 * S) + DY) else (b.2.1 * S + DX, b.1 * S + DY, b.2.2.2 * S + DX, b.2.2.1 * S + DY)) := by
  obtain ⟨x0, y0, x1, y1⟩ := b
  obtain ⟨h1, h2⟩ := h
  simp only at h1 h2
  have a1 := mulS_le (a := x0) (b := x1) hS
  have a2 := mulS_le (a := y0) (b := y1) hS
  unfold mbx rx0 ry0 rx1 ry1
  rcases kinds hK with rfl | rfl | rfl | rfl | rfl | rfl | rfl | rfl <;> simp [tpt0, tpt1, tpt2, tpt3, tpt4, tpt5, tpt6, tpt7] <;> omega
section
variable {a b : Int × Int × Int × Int}
theorem bcB_mbx (hK : 0 ≤ K ∧ K ≤ 7) (hS : 0 < S) (ha : Bxo a) (hb : Bxo b) : bcB (mbx K S DX DY a) (mbx K S DX DY b) = bcB a b := by
  have L := fun p q : Int => mulS_le (a := p) (b := q) hS
  rw [mbx_of hK hS a ha, mbx_of hK hS b hb]
  unfold bcB
  apply decide_eq_decide.2
  have N : ∀ p q e : Int, (-(p * S) + e ≤ -(q * S) + e ↔ q ≤ p) ∧ (p * S + e ≤ q * S + e ↔ p ≤ q) := fun p q e => by have h1 := L p q; have h2 := L q p; omega
  rcases kinds hK with rfl | rfl | rfl | rfl | rfl | rfl | rfl | rfl <;> simp [(N _ _ _).1, (N _ _ _).2] <;> omega
theorem inB_mbx (hK : 0 ≤ K ∧ K ≤ 7) (hS : 0 < S) (ha : Bxo a) (p : Int × Int) : inB (mbx K S DX DY a) (tpt K S DX DY p) = inB a p := by
  have L := fun p q : Int => mulS_le (a := p) (b := q) hS
  rw [mbx_of hK hS a ha]
  obtain ⟨x, y⟩ := p
  unfold inB
  apply decide_eq_decide.2
  have N : ∀ p q e : Int, (-(p * S) + e ≤ -(q * S) + e ↔ q ≤ p) ∧ (p * S + e ≤ q * S + e ↔ p ≤ q) := fun p q e => by have h1 := L p q; have h2 := L q p; omega
  rcases kinds hK with rfl | rfl | rfl | rfl | rfl | rfl | rfl | rfl <;> simp [tpt0, tpt1, tpt2, tpt3, tpt4, tpt5, tpt6, tpt7, (N _ _ _).1, (N _ _ _).2] <;> omega
end
end
end PF
set_option linter.unusedSimpArgs false
set_option linter.unusedVariables false
/-! What rings, lines and polygons say of one another does not change when all are turned: plain. -/
namespace Go.Proofs.YtbfanhdofopnnaaGreat
open Go.RowKit PF JR
section
variable {K S DX DY : Int} {l m : List (Int × Int)}
section
variable {a b : Int × Int × Int × Int}
end
theorem ppV_map (hK : 0 ≤ K ∧ K ≤ 7) (hS : 0 < S) (h3 : 3 ≤ l.length) : ppV true (l.map (tpt K S DX DY)) = ppV true l := by
  unfold ppV tooS
  rw [List.length_map, turn_conv hK (by omega) l (by omega)]
theorem _root_.PF.cntN_congr {f g : Nat → Bool} : ∀ {n : Nat}, (∀ k, k < n → f k = g k) → cntN f n = cntN g n := by
  intro n
  induction n with
  | zero => intro _; rfl
  | succ n ih => intro h; rw [cntN, cntN, ih (fun k hk => h k (by omega)), h n (by omega)]
theorem _root_.PF.allN_congr {f g : Nat → Bool} {n : Nat} (h : ∀ k, k < n → f k = g k) : allN f n = allN g n := by
  unfold allN
  rw [anyN_congr fun k hk => by rw [h k hk]]
variable {H G : List (List (Int × Int))}
end
end Go.Proofs.YtbfanhdofopnnaaGreat
set_option linter.unusedSimpArgs false
set_option linter.unusedVariables false
/-! Rings that are alike: they begin at another point, or go the other way round. -/
namespace PF
section
variable {Ax Ay Bx By Cx Cy Dx Dy : Int}
end
section
variable (a b c d : Int × Int)
variable {a b c d}
end
end PF
namespace Go.Proofs.YtbfanhdofopnnaaGreat
open Go.RowKit PF JR
/-- two rings that are alike -/
structure Like (l m : List (Int × Int)) : Prop where
  box : ppB true l = ppB true m
  has : ∀ p al, ringHas l p al = ringHas m p al
  any : ∀ F : Int × Int → Int × Int → Bool, (∀ a b, F a b = F b a) → (∀ p q, F p p = true → F q p = true) → anyN (fun k => F (at' l k) (nxp l k)) (nSeg true l) = anyN (fun k => F (at' m k) (nxp m k)) (nSeg true m)
  two : ∀ F : Int × Int → Int × Int → Bool, (∀ a b, F a b = F b a) → (∀ p q, F p p = true → F q p = true) → decide (2 ≤ cntN (fun k => F (at' l k) (nxp l k)) (nSeg true l)) = decide (2 ≤ cntN (fun k => F (at' m k) (nxp m k)) (nSeg true m))
  pts : ∀ F : Int × Int → Bool, anyN (fun k => F (at' l k)) l.length = anyN (fun k => F (at' m k)) m.length
theorem Like.refl (l : List (Int × Int)) : Like l l := ⟨rfl, fun _ _ => rfl, fun _ _ _ => rfl, fun _ _ _ => rfl, fun _ => rfl⟩
theorem Like.symm {l m : List (Int × Int)} (h : Like l m) : Like m l := ⟨h.box.symm, fun p al => (h.has p al).symm, fun F a b => (h.any F a b).symm, fun F a b => (h.two F a b).symm, fun F => (h.pts F).symm⟩
theorem Like.trans {l m n : List (Int × Int)} (h : Like l m) (g : Like m n) : Like l n := ⟨h.box.trans g.box, fun p al => (h.has p al).trans (g.has p al), fun F a b => (h.any F a b).trans (g.any F a b), fun F a b => (h.two F a b).trans (g.two F a b), fun F => (h.pts F).trans (g.pts F)⟩
section
variable {l l' m m' : List (Int × Int)} {a b p q : Int × Int}
theorem aon_any (l : List (Int × Int)) (p : Int × Int) : ∀ n, aon l p n = anyN (ron l p) n := by
  intro n
  induction n with
  | zero => rfl
  | succ n ih => rw [aon, anyN, ih]
variable {H G : List (List (Int × Int))}
theorem polHas_like (h : Like l l') (p : Int × Int) : polHas l H p = polHas l' H p := by
  unfold polHas
  rw [h.has]
end
end Go.Proofs.YtbfanhdofopnnaaGreat
set_option linter.unusedSimpArgs false
set_option linter.unusedVariables false
/-! FnTurnMeets: the plain law. -/
namespace Go.Proofs.YtbfanhdofopnnaaGreat
open Go.RowKit PF JR
/-- four corners, closed -/
def qd (p0 p1 p2 p3 : Int × Int) : List (Int × Int) := [p0, p1, p2, p3, p0]
theorem qd_box {p0 p1 p2 p3 q0 q1 q2 q3 : Int × Int} (h : ∀ p, p ∈ qd q0 q1 q2 q3 ↔ p ∈ qd p0 p1 p2 p3) : ppB true (qd p0 p1 p2 p3) = ppB true (qd q0 q1 q2 q3) :=
  (box_mem (l := qd p0 p1 p2 p3) (m := qd q0 q1 q2 q3) (Nat.succ_pos _) (Nat.succ_pos _) h).symm
theorem qd_seg (p0 p1 p2 p3 : Int × Int) : nSeg true (qd p0 p1 p2 p3) = 4 := by simp [nSeg, qd]
theorem qd_has (p0 p1 p2 p3 p : Int × Int) (al : Bool) : ringHas (qd p0 p1 p2 p3) p al = (inB (ppB true (qd p0 p1 p2 p3)) p &&
    ((((((false || rcOn p0.1 p0.2 p1.1 p1.2 p.1 p.2) || rcOn p1.1 p1.2 p2.1 p2.2 p.1 p.2) || rcOn p2.1 p2.2 p3.1 p3.2 p.1 p.2) || rcOn p3.1 p3.2 p0.1 p0.2 p.1 p.2) && al) ||
      (!((((false || rcOn p0.1 p0.2 p1.1 p1.2 p.1 p.2) || rcOn p1.1 p1.2 p2.1 p2.2 p.1 p.2) || rcOn p2.1 p2.2 p3.1 p3.2 p.1 p.2) || rcOn p3.1 p3.2 p0.1 p0.2 p.1 p.2) &&
        ((((false != rcIn p0.1 p0.2 p1.1 p1.2 p.1 p.2) != rcIn p1.1 p1.2 p2.1 p2.2 p.1 p.2) != rcIn p2.1 p2.2 p3.1 p3.2 p.1 p.2) != rcIn p3.1 p3.2 p0.1 p0.2 p.1 p.2)))) := by
  unfold ringHas
  rw [qd_seg]
  rfl
theorem qd_any (p0 p1 p2 p3 : Int × Int) (F : Int × Int → Int × Int → Bool) : anyN (fun k => F (at' (qd p0 p1 p2 p3) k) (nxp (qd p0 p1 p2 p3) k)) (nSeg true (qd p0 p1 p2 p3)) = ((((false || F p0 p1) || F p1 p2) || F p2 p3) || F p3 p0) := by
  rw [qd_seg]; rfl
theorem qd_cnt (p0 p1 p2 p3 : Int × Int) (F : Int × Int → Int × Int → Bool) : cntN (fun k => F (at' (qd p0 p1 p2 p3) k) (nxp (qd p0 p1 p2 p3) k)) (nSeg true (qd p0 p1 p2 p3)) = (((0 + if F p0 p1 = true then 1 else 0) + if F p1 p2 = true then 1 else 0) + if F p2 p3 = true then 1 else 0) + if F p3 p0 = true then 1 else 0 := by
  rw [qd_seg]; rfl
theorem qd_pts (p0 p1 p2 p3 : Int × Int) (F : Int × Int → Bool) : anyN (fun k => F (at' (qd p0 p1 p2 p3) k)) (qd p0 p1 p2 p3).length = (((((false || F p0) || F p1) || F p2) || F p3) || F p0) := rfl
theorem qd_rot (p0 p1 p2 p3 : Int × Int) : Like (qd p0 p1 p2 p3) (qd p1 p2 p3 p0) := by
  have hb : ppB true (qd p0 p1 p2 p3) = ppB true (qd p1 p2 p3 p0) := qd_box fun p => by simp [qd]; grind
  refine ⟨hb, fun p al => ?_, fun F _ _ => ?_, fun F _ _ => ?_, fun F => ?_⟩
  · rw [qd_has, qd_has, hb]
    generalize rcOn p0.1 p0.2 p1.1 p1.2 p.1 p.2 = x0
    generalize rcOn p1.1 p1.2 p2.1 p2.2 p.1 p.2 = x1
    generalize rcOn p2.1 p2.2 p3.1 p3.2 p.1 p.2 = x2
    generalize rcOn p3.1 p3.2 p0.1 p0.2 p.1 p.2 = x3
    generalize rcIn p0.1 p0.2 p1.1 p1.2 p.1 p.2 = y0
    generalize rcIn p1.1 p1.2 p2.1 p2.2 p.1 p.2 = y1
    generalize rcIn p2.1 p2.2 p3.1 p3.2 p.1 p.2 = y2
    generalize rcIn p3.1 p3.2 p0.1 p0.2 p.1 p.2 = y3
    congr 1
    have e1 : ((((false || x0) || x1) || x2) || x3) = ((((false || x1) || x2) || x3) || x0) := by cases x0 <;> cases x1 <;> cases x2 <;> cases x3 <;> rfl
    have e2 : ((((false != y0) != y1) != y2) != y3) = ((((false != y1) != y2) != y3) != y0) := by cases y0 <;> cases y1 <;> cases y2 <;> cases y3 <;> rfl
    rw [e1, e2]
  · rw [qd_any, qd_any]
    generalize F p0 p1 = x0
    generalize F p1 p2 = x1
    generalize F p2 p3 = x2
    generalize F p3 p0 = x3
    cases x0 <;> cases x1 <;> cases x2 <;> cases x3 <;> rfl
  · rw [qd_cnt, qd_cnt]
    congr 2
    omega
  · rw [qd_pts, qd_pts]
    generalize F p0 = x0
    generalize F p1 = x1
    generalize F p2 = x2
    generalize F p3 = x3
    cases x0 <;> cases x1 <;> cases x2 <;> cases x3 <;> rfl
theorem qd_rev (p0 p1 p2 p3 : Int × Int) : Like (qd p1 p0 p3 p2) (qd p0 p1 p2 p3) := by
  have hb : ppB true (qd p1 p0 p3 p2) = ppB true (qd p0 p1 p2 p3) := qd_box fun p => by simp [qd]; grind
  refine ⟨hb, fun p al => ?_, fun F hF _ => ?_, fun F hF _ => ?_, fun F => ?_⟩
  · rw [qd_has, qd_has, hb, rcOn_swap (Bx := p1.1) (By := p1.2) (Ax := p0.1) (Ay := p0.2), rcOn_swap (Bx := p0.1) (By := p0.2) (Ax := p3.1) (Ay := p3.2), rcOn_swap (Bx := p3.1) (By := p3.2) (Ax := p2.1) (Ay := p2.2), rcOn_swap (Bx := p2.1) (By := p2.2) (Ax := p1.1) (Ay := p1.2),
      rcIn_swap (Bx := p1.1) (By := p1.2) (Ax := p0.1) (Ay := p0.2), rcIn_swap (Bx := p0.1) (By := p0.2) (Ax := p3.1) (Ay := p3.2), rcIn_swap (Bx := p3.1) (By := p3.2) (Ax := p2.1) (Ay := p2.2), rcIn_swap (Bx := p2.1) (By := p2.2) (Ax := p1.1) (Ay := p1.2)]
    generalize rcOn p0.1 p0.2 p1.1 p1.2 p.1 p.2 = x0
    generalize rcOn p1.1 p1.2 p2.1 p2.2 p.1 p.2 = x1
    generalize rcOn p2.1 p2.2 p3.1 p3.2 p.1 p.2 = x2
    generalize rcOn p3.1 p3.2 p0.1 p0.2 p.1 p.2 = x3
    generalize rcIn p0.1 p0.2 p1.1 p1.2 p.1 p.2 = y0
    generalize rcIn p1.1 p1.2 p2.1 p2.2 p.1 p.2 = y1
    generalize rcIn p2.1 p2.2 p3.1 p3.2 p.1 p.2 = y2
    generalize rcIn p3.1 p3.2 p0.1 p0.2 p.1 p.2 = y3
    congr 1
    have e1 : ((((false || x0) || x3) || x2) || x1) = ((((false || x0) || x1) || x2) || x3) := by cases x0 <;> cases x1 <;> cases x2 <;> cases x3 <;> rfl
    have e2 : ((((false != y0) != y3) != y2) != y1) = ((((false != y0) != y1) != y2) != y3) := by cases y0 <;> cases y1 <;> cases y2 <;> cases y3 <;> rfl
    rw [e1, e2]
  · rw [qd_any, qd_any, hF p1 p0, hF p0 p3, hF p3 p2, hF p2 p1]
    generalize F p0 p1 = x0
    generalize F p1 p2 = x1
    generalize F p2 p3 = x2
    generalize F p3 p0 = x3
    cases x0 <;> cases x1 <;> cases x2 <;> cases x3 <;> rfl
  · rw [qd_cnt, qd_cnt, hF p1 p0, hF p0 p3, hF p3 p2, hF p2 p1]
    congr 2
    omega
  · rw [qd_pts, qd_pts]
    generalize F p0 = x0
    generalize F p1 = x1
    generalize F p2 = x2
    generalize F p3 = x3
    cases x0 <;> cases x1 <;> cases x2 <;> cases x3 <;> rfl
section
variable {KK S DX DY : Int}
theorem rl_turn (hK : 0 ≤ KK ∧ KK ≤ 7) (hS : 0 < S) {a b c d : Int} (h1 : a < c) (h2 : b < d) : Like ((rl a b c d).map (tpt KK S DX DY)) (rl (rx0 KK S DX DY a b c d) (ry0 KK S DX DY a b c d) (rx1 KK S DX DY a b c d) (ry1 KK S DX DY a b c d)) := by
  have e := mbx_of (DX := DX) (DY := DY) hK hS (a, b, c, d) ⟨Int.le_of_lt h1, Int.le_of_lt h2⟩
  unfold mbx at e
  simp only [Prod.mk.injEq] at e
  have R : ∀ p0 p1 p2 p3 : Int × Int, Like (qd p1 p2 p3 p0) (qd p0 p1 p2 p3) := fun p0 p1 p2 p3 => (qd_rot p0 p1 p2 p3).symm
  show Like (qd (tpt KK S DX DY (a, b)) (tpt KK S DX DY (c, b)) (tpt KK S DX DY (c, d)) (tpt KK S DX DY (a, d))) (qd (rx0 KK S DX DY a b c d, ry0 KK S DX DY a b c d) (rx1 KK S DX DY a b c d, ry0 KK S DX DY a b c d) (rx1 KK S DX DY a b c d, ry1 KK S DX DY a b c d) (rx0 KK S DX DY a b c d, ry1 KK S DX DY a b c d))
  rcases kinds hK with rfl | rfl | rfl | rfl | rfl | rfl | rfl | rfl
  all_goals
    simp only [Int.reduceEq, if_true, if_false, Prod.mk.injEq] at e
    obtain ⟨e1, e2, e3, e4⟩ := e
    rw [e1, e2, e3, e4]
    simp only [tpt0, tpt1, tpt2, tpt3, tpt4, tpt5, tpt6, tpt7]
  · exact Like.refl _
  · exact R _ _ _ _
  · exact (R _ _ _ _).trans (R _ _ _ _)
  · exact qd_rot _ _ _ _
  · exact qd_rev _ _ _ _
  · exact (qd_rot _ _ _ _).trans (qd_rev _ _ _ _)
  · exact (qd_rot _ _ _ _).trans ((qd_rot _ _ _ _).trans (qd_rev _ _ _ _))
  · exact (R _ _ _ _).trans (qd_rev _ _ _ _)
theorem shOk_turn (hK : 0 ≤ KK ∧ KK ≤ 7) (hS : 1 ≤ S ∧ S ≤ 8) (hD : -4096 ≤ DX ∧ DX ≤ 4096 ∧ -4096 ≤ DY ∧ DY ≤ 4096) {K : Int} {l : List (Int × Int)} {H : List (List (Int × Int))} (h : VaryS K l H) : ShOk K l H ∧ ShOk K (vsl KK S DX DY K l) (H.map fun x => x.map (tpt KK S DX DY)) := by
  have hb : ∀ x : List (Int × Int), x.all okP = true → (∀ p ∈ x, Bn3 p) ∧ ∀ p ∈ x.map (tpt KK S DX DY), Bn3 p := by
    intro x hx
    refine ⟨fun p hp => ?_, fun p hp => ?_⟩
    · have := okP_bnd hx
      have := List.all_eq_true.1 hx p hp
      simp [okP] at this
      unfold Bn3
      omega
    · obtain ⟨⟨q1, q2⟩, hq, rfl⟩ := List.mem_map.1 hp
      have := List.all_eq_true.1 hx _ hq
      simp [okP] at this
      have := tpt_bd2 KK S DX DY hK hS hD q1 q2 (by omega)
      unfold Bn3
      omega
  obtain ⟨ho, h3, hn, hh, hk⟩ := h
  have hH : ∀ x ∈ H, okRn x := fun x hx => ⟨(hh x hx).1, by have := (hh x hx).2.1; omega, (hb x (hh x hx).2.2).1⟩
  have hH2 : ∀ x ∈ H.map fun x => x.map (tpt KK S DX DY), okRn x := by
    intro x hx
    obtain ⟨y, hy, rfl⟩ := List.mem_map.1 hx
    exact ⟨by rw [List.length_map]; exact (hh y hy).1, by rw [List.length_map]; have := (hh y hy).2.1; omega, (hb y (hh y hy).2.2).2⟩
  rcases hk with ⟨rfl, g⟩ | ⟨rfl, X0, Y0, X1, Y1, rfl, g1, g2⟩ | ⟨rfl, g1, g2⟩ | ⟨rfl, g1, g2⟩
  · obtain ⟨p, rfl⟩ := List.length_eq_one_iff.1 g
    exact ⟨⟨(hb _ ho).1, h3, hH, .inl ⟨rfl, p, rfl⟩⟩, (hb _ ho).2, by rw [List.length_map]; exact h3, hH2, .inl ⟨rfl, _, rfl⟩⟩
  · refine ⟨⟨(hb _ ho).1, h3, hH, .inr (.inl ⟨rfl, _, _, _, _, rfl, g1, g2⟩)⟩, ?_, by rw [List.length_map]; exact h3, hH2, .inr (.inl ⟨rfl, _, _, _, _, rfl, (rect_order hK (by omega) g1 g2).1, (rect_order hK (by omega) g1 g2).2⟩)⟩
    have b0 := (hb _ ho).2 (tpt KK S DX DY (X0, Y0)) (by simp)
    have b1 := (hb _ ho).2 (tpt KK S DX DY (X1, Y1)) (by simp)
    unfold Bn3 at b0 b1
    intro p hp
    unfold Bn3
    rcases List.mem_cons.1 hp with rfl | hp
    · show Int.natAbs (min _ _) ≤ _ ∧ Int.natAbs (min _ _) ≤ _
      show Int.natAbs (min (tpt KK S DX DY (X0, Y0)).1 (tpt KK S DX DY (X1, Y1)).1) ≤ _ ∧ Int.natAbs (min (tpt KK S DX DY (X0, Y0)).2 (tpt KK S DX DY (X1, Y1)).2) ≤ _
      omega
    · rcases List.mem_cons.1 hp with rfl | hp
      · show Int.natAbs (max (tpt KK S DX DY (X0, Y0)).1 (tpt KK S DX DY (X1, Y1)).1) ≤ _ ∧ Int.natAbs (max (tpt KK S DX DY (X0, Y0)).2 (tpt KK S DX DY (X1, Y1)).2) ≤ _
        omega
      · cases hp
  · exact ⟨⟨(hb _ ho).1, h3, hH, .inr (.inr (.inl ⟨rfl, g1, g2⟩))⟩, (hb _ ho).2, by rw [List.length_map]; exact h3, hH2, .inr (.inr (.inl ⟨rfl, by show 2 ≤ (l.map _).length; rw [List.length_map]; exact g1, by show (l.map _).length ≤ 12; rw [List.length_map]; exact g2⟩))⟩
  · exact ⟨⟨(hb _ ho).1, h3, hH, .inr (.inr (.inr ⟨rfl, g1, g2⟩))⟩, (hb _ ho).2, by rw [List.length_map]; exact h3, hH2, .inr (.inr (.inr ⟨rfl, by show 3 ≤ (l.map _).length; rw [List.length_map]; exact g1, by show (l.map _).length ≤ 12; rw [List.length_map]; exact g2⟩))⟩
end
end Go.Proofs.YtbfanhdofopnnaaGreat
set_option linter.unusedSimpArgs false
set_option linter.unusedVariables false
/-! A ring that begins at another of its points, or goes the other way round, is alike. -/
namespace Go.Proofs.YtbfanhdofopnnaaGreat
open Go.RowKit PF JR
theorem cntN_shift {f : Nat → Bool} : ∀ n, cntN (fun k => f (k + 1)) n + (if f 0 = true then 1 else 0) = cntN f (n + 1) := by
  intro n
  induction n with
  | zero => simp [cntN]
  | succ n ih =>
    rw [cntN, cntN, ← ih]
    omega
theorem cntN_rot {f : Nat → Bool} {n : Nat} (hp : ∀ k, f (k + n) = f k) (a : Nat) : cntN (fun k => f (a + k)) n = cntN f n := by
  induction a with
  | zero => exact cntN_congr fun k _ => by rw [Nat.zero_add]
  | succ a ih =>
    have h := cntN_shift (f := fun k => f (a + k)) n
    rw [cntN] at h
    have e : cntN (fun k => f (a + 1 + k)) n = cntN (fun k => f (a + (k + 1))) n := cntN_congr fun k _ => by rw [Nat.add_assoc, Nat.add_comm 1 k]
    simp only [Nat.add_zero, hp a] at h
    omega
theorem cntN_rev {f : Nat → Bool} : ∀ n, cntN (fun k => f (n - 1 - k)) n = cntN f n := by
  intro n
  induction n with
  | zero => rfl
  | succ n ih =>
    have h := cntN_shift (f := fun k => f (n - k)) n
    have e1 : cntN (fun k => f (n - (k + 1))) n = cntN (fun k => f (n - 1 - k)) n := cntN_congr fun k _ => by rw [show n - (k + 1) = n - 1 - k from by omega]
    have e2 : cntN (fun k => f (n + 1 - 1 - k)) (n + 1) = cntN (fun k => f (n - k)) (n + 1) := cntN_congr fun k _ => by rw [Nat.add_sub_cancel]
    rw [e2, ← h, e1, ih, cntN]
    simp only [Nat.sub_zero]
theorem anyN_cnt {f : Nat → Bool} : ∀ n, anyN f n = decide (0 < cntN f n) := by
  intro n
  induction n with
  | zero => rfl
  | succ n ih =>
    rw [anyN, cntN, ih]
    cases f n <;> simp
theorem xrs_cnt (l : List (Int × Int)) (p : Int × Int) : ∀ n, xrs l p n = decide (cntN (rin l p) n % 2 = 1) := by
  intro n
  induction n with
  | zero => rfl
  | succ n ih =>
    rw [xrs, cntN, ih]
    cases rin l p n with
    | false => simp
    | true =>
      rcases Nat.mod_two_eq_zero_or_one (cntN (rin l p) n) with h | h
      · have : (cntN (rin l p) n + 1) % 2 = 1 := by omega
        simp [h, this]
      · have : (cntN (rin l p) n + 1) % 2 = 0 := by omega
        simp [h, this]
theorem nxp_cyc {l : List (Int × Int)} {k : Nat} (h : k < l.length) : nxp l k = cyc l (k + 1) := by
  unfold nxp cyc
  by_cases e : k = l.length - 1
  · rw [if_pos e, show k + 1 = l.length from by omega, Nat.mod_self]
  · rw [if_neg e, Nat.mod_eq_of_lt (by omega)]
theorem seg_cnt (l : List (Int × Int)) (a : Nat) (back : Bool) (h : 0 < l.length) (F : Int × Int → Int × Int → Bool) (hF : ∀ a b, F a b = F b a) :
    cntN (fun k => F (at' (bgn l a back) k) (nxp (bgn l a back) k)) l.length = cntN (fun k => F (at' l k) (nxp l k)) l.length := by
  have hp : ∀ k, (fun j => F (cyc l j) (cyc l (j + 1))) (k + l.length) = (fun j => F (cyc l j) (cyc l (j + 1))) k := fun k => by
    simp only
    rw [cyc_add, show k + l.length + 1 = k + 1 + l.length from by omega, cyc_add]
  have e0 : cntN (fun k => F (at' l k) (nxp l k)) l.length = cntN (fun j => F (cyc l j) (cyc l (j + 1))) l.length := cntN_congr fun k hk => by rw [cyc_at hk, nxp_cyc hk]
  have hm := bgn_len l a back
  rw [e0]
  cases back with
  | false =>
    refine Eq.trans ?_ (cntN_rot (f := fun j => F (cyc l j) (cyc l (j + 1))) hp a)
    refine cntN_congr fun k hk => ?_
    rw [← cyc_at (by omega), nxp_cyc (by omega), bgn_cyc l a h, bgn_cyc l a h]
    rfl
  | true =>
    refine Eq.trans ?_ ((cntN_rev (f := fun j => (fun j => F (cyc l j) (cyc l (j + 1))) (a + l.length + j)) l.length).trans (cntN_rot (f := fun j => F (cyc l j) (cyc l (j + 1))) hp (a + l.length)))
    refine cntN_congr fun k hk => ?_
    rw [← cyc_at (by omega), nxp_cyc (by omega), bgn_cycB l a h k (by omega), bgn_cycB l a h (k + 1) (by omega), hF]
    simp only
    rw [show a + 2 * l.length - (k + 1) = a + l.length + (l.length - 1 - k) from by omega, show a + 2 * l.length - k = a + l.length + (l.length - 1 - k) + 1 from by omega]
theorem nS {l : List (Int × Int)} (h3 : 3 ≤ l.length) : nSeg true l = l.length ∨ (nSeg true l = l.length - 1 ∧ at' l (l.length - 1) = at' l 0) := by
  unfold nSeg
  rw [if_pos rfl, if_neg (by omega)]
  by_cases e : l[l.length - 1]? = l[0]?
  · rw [if_pos e]
    rw [at_get (show l.length - 1 < l.length by omega), at_get (show 0 < l.length by omega)] at e
    exact .inr ⟨rfl, Option.some.inj e⟩
  · rw [if_neg e]
    exact .inl rfl
section
variable {l : List (Int × Int)} {F : Int × Int → Int × Int → Bool}
theorem seg_last (h3 : 3 ≤ l.length) (e : at' l (l.length - 1) = at' l 0) (hF : ∀ a b, F a b = F b a) (hd : ∀ p q, F p p = true → F q p = true) (h : F (at' l (l.length - 1)) (nxp l (l.length - 1)) = true) :
    F (at' l 0) (nxp l 0) = true ∧ F (at' l (l.length - 2)) (nxp l (l.length - 2)) = true := by
  have e1 : nxp l (l.length - 1) = at' l 0 := by unfold nxp; rw [if_pos rfl]
  have e2 : nxp l (l.length - 2) = at' l (l.length - 1) := by unfold nxp; rw [if_neg (by omega), show l.length - 2 + 1 = l.length - 1 from by omega]
  rw [e1, e] at h
  refine ⟨?_, ?_⟩
  · rw [hF]; exact hd _ _ h
  · rw [e2, e]; exact hd _ _ h
theorem any_full (h3 : 3 ≤ l.length) (hF : ∀ a b, F a b = F b a) (hd : ∀ p q, F p p = true → F q p = true) : anyN (fun k => F (at' l k) (nxp l k)) (nSeg true l) = anyN (fun k => F (at' l k) (nxp l k)) l.length := by
  rcases nS h3 with h | ⟨h, e⟩
  · rw [h]
  · rw [h]
    obtain ⟨n, hn⟩ : ∃ n, l.length = n + 1 := ⟨l.length - 1, by omega⟩
    cases g : F (at' l (l.length - 1)) (nxp l (l.length - 1)) with
    | false =>
      rw [hn] at g ⊢
      rw [anyN, Nat.add_sub_cancel]
      simp only [Nat.add_sub_cancel] at g
      simp only [g, Bool.or_false]
    | true =>
      have h0 := (seg_last h3 e hF hd g).1
      rw [anyN_hit (f := fun k => F (at' l k) (nxp l k)) (show 0 < l.length - 1 by omega) h0, anyN_hit (f := fun k => F (at' l k) (nxp l k)) (show 0 < l.length by omega) h0]
theorem two_full (h3 : 3 ≤ l.length) (hF : ∀ a b, F a b = F b a) (hd : ∀ p q, F p p = true → F q p = true) : decide (2 ≤ cntN (fun k => F (at' l k) (nxp l k)) (nSeg true l)) = decide (2 ≤ cntN (fun k => F (at' l k) (nxp l k)) l.length) := by
  rcases nS h3 with h | ⟨h, e⟩
  · rw [h]
  · rw [h]
    obtain ⟨n, hn⟩ : ∃ n, l.length = n + 1 := ⟨l.length - 1, by omega⟩
    cases g : F (at' l (l.length - 1)) (nxp l (l.length - 1)) with
    | false =>
      rw [hn] at g ⊢
      rw [cntN, Nat.add_sub_cancel]
      simp only [Nat.add_sub_cancel] at g
      simp [g]
    | true =>
      obtain ⟨h0, h2⟩ := seg_last h3 e hF hd g
      have k2 : 2 ≤ cntN (fun k => F (at' l k) (nxp l k)) (l.length - 1) := by
        obtain ⟨j, hj⟩ : ∃ j, l.length - 1 = j + 1 := ⟨l.length - 2, by omega⟩
        have hj2 : l.length - 2 = j := by omega
        rw [hj2] at h2
        rw [hj, cntN]
        have := cntN_le (f := fun k => F (at' l k) (nxp l k)) (show 1 ≤ j by omega)
        rw [cntN, cntN] at this
        simp only [h0, h2, if_true] at this ⊢
        omega
      have := cntN_le (f := fun k => F (at' l k) (nxp l k)) (show l.length - 1 ≤ l.length by omega)
      rw [decide_eq_true k2, decide_eq_true (Nat.le_trans k2 this)]
theorem pts_any (l : List (Int × Int)) (F : Int × Int → Bool) : anyN (fun k => F (at' l k)) l.length = l.any F := by
  rw [Bool.eq_iff_iff, anyN_iff, List.any_eq_true]
  constructor
  · rintro ⟨k, hk, e⟩
    exact ⟨_, List.mem_of_getElem? (at_get hk), e⟩
  · rintro ⟨p, hp, e⟩
    obtain ⟨k, hk⟩ := List.mem_iff_getElem?.1 hp
    have hlt : k < l.length := by
      rcases Nat.lt_or_ge k l.length with h | h
      · exact h
      · rw [List.getElem?_eq_none h] at hk; cases hk
    rw [at_get hlt] at hk
    exact ⟨k, hlt, by rw [Option.some.inj hk]; exact e⟩
end
theorem ppB_3 {l : List (Int × Int)} (h3 : 3 ≤ l.length) : ppB true l = box l := by
  unfold ppB tooS
  rw [if_neg (by simp; omega)]
/-- **a ring that begins at another of its points is alike** -/
theorem bgn_like (l : List (Int × Int)) (a : Nat) (back : Bool) (h3 : 3 ≤ l.length) : Like l (bgn l a back) := by
  have hm := bgn_len l a back
  have hm3 : 3 ≤ (bgn l a back).length := by omega
  have h0 : 0 < l.length := by omega
  refine ⟨?_, fun p al => ?_, fun F hF hd => ?_, fun F hF hd => ?_, fun F => ?_⟩
  · rw [ppB_3 h3, ppB_3 hm3, bgn_box l a back h0]
  · have e1 := seg_cnt l a back h0 (fun a b => rcOn a.1 a.2 b.1 b.2 p.1 p.2) (fun a b => rcOn_swap)
    have e2 := seg_cnt l a back h0 (fun a b => rcIn a.1 a.2 b.1 b.2 p.1 p.2) (fun a b => rcIn_swap)
    rw [ringHas_al al h3, ringHas_al al hm3, aon_any, aon_any, anyN_cnt, anyN_cnt, xrs_cnt, xrs_cnt, hm]
    have e1 : cntN (ron (bgn l a back) p) l.length = cntN (ron l p) l.length := e1
    have e2 : cntN (rin (bgn l a back) p) l.length = cntN (rin l p) l.length := e2
    rw [e1, e2]
  · rw [any_full h3 hF hd, any_full hm3 hF hd, anyN_cnt, anyN_cnt, hm, seg_cnt l a back h0 F hF]
  · rw [two_full h3 hF hd, two_full hm3 hF hd, hm, seg_cnt l a back h0 F hF]
  · rw [pts_any, pts_any, Bool.eq_iff_iff, List.any_eq_true, List.any_eq_true]
    simp only [bgn_mem l a back h0]
end Go.Proofs.YtbfanhdofopnnaaGreat
