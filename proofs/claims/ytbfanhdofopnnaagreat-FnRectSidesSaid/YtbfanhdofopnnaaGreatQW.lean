import Derived.Test.YtbfanhdofopnnaaGreatLk
import Derived.Test.YtbfanhdofopnnaaGreatHp
import Derived.Test.YtbfanhdofopnnaaGreatQP
import Derived.Test.YtbfanhdofopnnaaGreatQA
import Derived.Test.YtbfanhdofopnnaaGreatQN
import Derived.Test.YtbfanhdofopnnaaGreatPt
import Derived.Test.YtbfanhdofopnnaaGreatHw
set_option linter.unusedSimpArgs false
set_option linter.unusedVariables false
/-! What shapes say of one another does not change when all are turned: plain. -/
namespace PF
section
variable {K S DX DY : Int}
/-- two segments' boxes lie apart -/
def apt (a b c d : Int × Int) : Prop :=
  ((a.2 < c.2 ∧ a.2 < d.2 ∧ b.2 < c.2 ∧ b.2 < d.2) ∨ (c.2 < a.2 ∧ c.2 < b.2 ∧ d.2 < a.2 ∧ d.2 < b.2)) ∨ ((a.1 < c.1 ∧ a.1 < d.1 ∧ b.1 < c.1 ∧ b.1 < d.1) ∨ (c.1 < a.1 ∧ c.1 < b.1 ∧ d.1 < a.1 ∧ d.1 < b.1))
instance (a b c d : Int × Int) : Decidable (apt a b c d) := by unfold apt; infer_instance
section
variable {a b : Int × Int × Int × Int}
end
end
end PF
set_option linter.unusedSimpArgs false
set_option linter.unusedVariables false
/-! What rings, lines and polygons say of one another does not change when all are turned: plain. -/
namespace Go.Proofs.YtbfanhdofopnnaaGreat
open Go.RowKit PF JR
section
variable {K S DX DY : Int} {l m : List (Int × Int)}
section
variable {a b : Int × Int × Int × Int}
end
variable {H G : List (List (Int × Int))}
end
end Go.Proofs.YtbfanhdofopnnaaGreat
set_option linter.unusedSimpArgs false
set_option linter.unusedVariables false
/-! Rings that are alike: they begin at another point, or go the other way round. -/
namespace PF
section
variable {Ax Ay Bx By Cx Cy Dx Dy : Int}
end
section
variable (a b c d : Int × Int)
/-- whether segments ab and cd meet -/
def sxp : Bool := sx a.1 a.2 b.1 b.2 c.1 c.2 d.1 d.2
variable {a b c d}
end
end PF
namespace Go.Proofs.YtbfanhdofopnnaaGreat
open Go.RowKit PF JR
/-- two rings that are alike -/
structure Like (l m : List (Int × Int)) : Prop where
  box : ppB true l = ppB true m
  has : ∀ p al, ringHas l p al = ringHas m p al
  any : ∀ F : Int × Int → Int × Int → Bool, (∀ a b, F a b = F b a) → (∀ p q, F p p = true → F q p = true) → anyN (fun k => F (at' l k) (nxp l k)) (nSeg true l) = anyN (fun k => F (at' m k) (nxp m k)) (nSeg true m)
  two : ∀ F : Int × Int → Int × Int → Bool, (∀ a b, F a b = F b a) → (∀ p q, F p p = true → F q p = true) → decide (2 ≤ cntN (fun k => F (at' l k) (nxp l k)) (nSeg true l)) = decide (2 ≤ cntN (fun k => F (at' m k) (nxp m k)) (nSeg true m))
  pts : ∀ F : Int × Int → Bool, anyN (fun k => F (at' l k)) l.length = anyN (fun k => F (at' m k)) m.length
theorem Like.refl (l : List (Int × Int)) : Like l l := ⟨rfl, fun _ _ => rfl, fun _ _ _ => rfl, fun _ _ _ => rfl, fun _ => rfl⟩
theorem Like.symm {l m : List (Int × Int)} (h : Like l m) : Like m l := ⟨h.box.symm, fun p al => (h.has p al).symm, fun F a b => (h.any F a b).symm, fun F a b => (h.two F a b).symm, fun F => (h.pts F).symm⟩
theorem Like.trans {l m n : List (Int × Int)} (h : Like l m) (g : Like m n) : Like l n := ⟨h.box.trans g.box, fun p al => (h.has p al).trans (g.has p al), fun F a b => (h.any F a b).trans (g.any F a b), fun F a b => (h.two F a b).trans (g.two F a b), fun F => (h.pts F).trans (g.pts F)⟩
/-- the ring l and the segment ab -/
def risP (l : List (Int × Int)) (a b : Int × Int) : Bool := bmB (min a.1 b.1, min a.2 b.2, max a.1 b.1, max a.2 b.2) (ppB true l) && (ringHas l a true || ringHas l b true || decide (2 ≤ cntN (fun k => sxp a b (at' l k) (nxp l k)) (nSeg true l)))
section
variable {l l' m m' : List (Int × Int)} {a b p q : Int × Int}
variable {H G : List (List (Int × Int))}
end
end Go.Proofs.YtbfanhdofopnnaaGreat
set_option linter.unusedSimpArgs false
set_option linter.unusedVariables false
/-! FnTurnMeets: the plain law. -/
namespace Go.Proofs.YtbfanhdofopnnaaGreat
open Go.RowKit PF JR
/-- four corners, closed -/
def qd (p0 p1 p2 p3 : Int × Int) : List (Int × Int) := [p0, p1, p2, p3, p0]
theorem qd_seg (p0 p1 p2 p3 : Int × Int) : nSeg true (qd p0 p1 p2 p3) = 4 := by simp [nSeg, qd]
theorem qd_has (p0 p1 p2 p3 p : Int × Int) (al : Bool) : ringHas (qd p0 p1 p2 p3) p al = (inB (ppB true (qd p0 p1 p2 p3)) p &&
    ((((((false || rcOn p0.1 p0.2 p1.1 p1.2 p.1 p.2) || rcOn p1.1 p1.2 p2.1 p2.2 p.1 p.2) || rcOn p2.1 p2.2 p3.1 p3.2 p.1 p.2) || rcOn p3.1 p3.2 p0.1 p0.2 p.1 p.2) && al) ||
      (!((((false || rcOn p0.1 p0.2 p1.1 p1.2 p.1 p.2) || rcOn p1.1 p1.2 p2.1 p2.2 p.1 p.2) || rcOn p2.1 p2.2 p3.1 p3.2 p.1 p.2) || rcOn p3.1 p3.2 p0.1 p0.2 p.1 p.2) &&
        ((((false != rcIn p0.1 p0.2 p1.1 p1.2 p.1 p.2) != rcIn p1.1 p1.2 p2.1 p2.2 p.1 p.2) != rcIn p2.1 p2.2 p3.1 p3.2 p.1 p.2) != rcIn p3.1 p3.2 p0.1 p0.2 p.1 p.2)))) := by
  unfold ringHas
  rw [qd_seg]
  rfl
theorem qd_cnt (p0 p1 p2 p3 : Int × Int) (F : Int × Int → Int × Int → Bool) : cntN (fun k => F (at' (qd p0 p1 p2 p3) k) (nxp (qd p0 p1 p2 p3) k)) (nSeg true (qd p0 p1 p2 p3)) = (((0 + if F p0 p1 = true then 1 else 0) + if F p1 p2 = true then 1 else 0) + if F p2 p3 = true then 1 else 0) + if F p3 p0 = true then 1 else 0 := by
  rw [qd_seg]; rfl
section
variable {KK S DX DY : Int}
end
end Go.Proofs.YtbfanhdofopnnaaGreat
set_option linter.unusedSimpArgs false
set_option linter.unusedVariables false
/-! A ring that begins at another of its points, or goes the other way round, is alike. -/
namespace Go.Proofs.YtbfanhdofopnnaaGreat
open Go.RowKit PF JR
section
variable {l : List (Int × Int)} {F : Int × Int → Int × Int → Bool}
end
end Go.Proofs.YtbfanhdofopnnaaGreat
