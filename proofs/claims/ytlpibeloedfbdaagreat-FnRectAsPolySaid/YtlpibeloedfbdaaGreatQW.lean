import Derived.Test.YtlpibeloedfbdaaGreatLk
import Derived.Test.YtlpibeloedfbdaaGreatHp
import Derived.Test.YtlpibeloedfbdaaGreatQP
import Derived.Test.YtlpibeloedfbdaaGreatQA
import Derived.Test.YtlpibeloedfbdaaGreatQN
import Derived.Test.YtlpibeloedfbdaaGreatPt
import Derived.Test.YtlpibeloedfbdaaGreatQO
set_option linter.unusedSimpArgs false
set_option linter.unusedVariables false
/-! What shapes say of one another does not change when all are turned: plain. -/
namespace PF
section
variable {K S DX DY : Int}
/-- two segments' boxes lie apart -/
def apt (a b c d : Int × Int) : Prop :=
  ((a.2 < c.2 ∧ a.2 < d.2 ∧ b.2 < c.2 ∧ b.2 < d.2) ∨ (c.2 < a.2 ∧ c.2 < b.2 ∧ d.2 < a.2 ∧ d.2 < b.2)) ∨ ((a.1 < c.1 ∧ a.1 < d.1 ∧ b.1 < c.1 ∧ b.1 < d.1) ∨ (c.1 < a.1 ∧ c.1 < b.1 ∧ d.1 < a.1 ∧ d.1 < b.1))
instance (a b c d : Int × Int) : Decidable (apt a b c d) := by unfold apt; infer_instance
theorem sx_or (a b c d : Int × Int) : sx a.1 a.2 b.1 b.2 c.1 c.2 d.1 d.2 = (if apt a b c d then false else if (a.1 = c.1 ∧ a.2 = c.2) ∨ (a.1 = d.1 ∧ a.2 = d.2) ∨ (b.1 = c.1 ∧ b.2 = c.2) ∨ (b.1 = d.1 ∧ b.2 = d.2) then true
    else if side a.1 a.2 b.1 b.2 c.1 c.2 = 0 then rcOn a.1 a.2 b.1 b.2 c.1 c.2 || rcOn a.1 a.2 b.1 b.2 d.1 d.2 else meets a.1 a.2 b.1 b.2 c.1 c.2 d.1 d.2) := by
  unfold sx
  by_cases h1 : (a.2 < c.2 ∧ a.2 < d.2 ∧ b.2 < c.2 ∧ b.2 < d.2) ∨ (c.2 < a.2 ∧ c.2 < b.2 ∧ d.2 < a.2 ∧ d.2 < b.2)
  · rw [if_pos h1, if_pos (show apt a b c d from .inl h1)]
  · rw [if_neg h1]
    by_cases h2 : (a.1 < c.1 ∧ a.1 < d.1 ∧ b.1 < c.1 ∧ b.1 < d.1) ∨ (c.1 < a.1 ∧ c.1 < b.1 ∧ d.1 < a.1 ∧ d.1 < b.1)
    · rw [if_pos h2, if_pos (show apt a b c d from .inr h2)]
    · rw [if_neg h2, if_neg (show ¬ apt a b c d from fun h => h.elim h1 h2)]
section
variable {a b : Int × Int × Int × Int}
end
end
end PF
set_option linter.unusedSimpArgs false
set_option linter.unusedVariables false
/-! What rings, lines and polygons say of one another does not change when all are turned: plain. -/
namespace Go.Proofs.YtlpibeloedfbdaaGreat
open Go.RowKit PF JR
section
variable {K S DX DY : Int} {l m : List (Int × Int)}
section
variable {a b : Int × Int × Int × Int}
end
theorem _root_.PF.cntN_congr {f g : Nat → Bool} : ∀ {n : Nat}, (∀ k, k < n → f k = g k) → cntN f n = cntN g n := by
  intro n
  induction n with
  | zero => intro _; rfl
  | succ n ih => intro h; rw [cntN, cntN, ih (fun k hk => h k (by omega)), h n (by omega)]
theorem _root_.PF.allN_congr {f g : Nat → Bool} {n : Nat} (h : ∀ k, k < n → f k = g k) : allN f n = allN g n := by
  unfold allN
  rw [anyN_congr fun k hk => by rw [h k hk]]
theorem getD_mem {H : List (List (Int × Int))} {k : Nat} (hk : k < H.length) : H.getD k [] ∈ H := by
  rw [List.getD_eq_getElem?_getD, List.getElem?_eq_getElem hk]
  exact List.getElem_mem hk
variable {H G : List (List (Int × Int))}
end
end Go.Proofs.YtlpibeloedfbdaaGreat
set_option linter.unusedSimpArgs false
set_option linter.unusedVariables false
/-! Rings that are alike: they begin at another point, or go the other way round. -/
namespace PF
section
variable {Ax Ay Bx By Cx Cy Dx Dy : Int}
theorem meets_swap2 : meets Ax Ay Bx By Dx Dy Cx Cy = meets Ax Ay Bx By Cx Cy Dx Dy := by
  unfold meets
  apply decide_eq_decide.2
  rw [side_swap (Cx := Ax) (Cy := Ay) (Ax := Cx) (Ay := Cy), side_swap (Cx := Bx) (Cy := By) (Ax := Cx) (Ay := Cy), apart_neg, apart_comm (m := side Ax Ay Bx By Dx Dy)]
theorem on_side (h : side Ax Ay Bx By Cx Cy ≠ 0) : rcOn Ax Ay Bx By Cx Cy = false := by
  apply rcOn_ne
  intro e
  apply h
  have := id_n (Ax := Ax) (Ay := Ay) (Bx := Bx) (By := By) (Cx := Cx) (Cy := Cy)
  omega
theorem on_box (h : rcOn Ax Ay Bx By Cx Cy = true) : ((Ax ≤ Cx ∧ Cx ≤ Bx) ∨ (Bx ≤ Cx ∧ Cx ≤ Ax)) ∧ ((Ay ≤ Cy ∧ Cy ≤ By) ∨ (By ≤ Cy ∧ Cy ≤ Ay)) := by
  unfold rcOn at h
  exact (of_decide_eq_true h).2
theorem on_end (h : (Ax = Cx ∧ Ay = Cy) ∨ (Bx = Cx ∧ By = Cy)) : rcOn Ax Ay Bx By Cx Cy = true := by
  unfold rcOn
  rw [decide_eq_true_iff]
  rcases h with ⟨rfl, rfl⟩ | ⟨rfl, rfl⟩
  · refine ⟨by simp, by omega, by omega⟩
  · refine ⟨by rw [Int.mul_comm], by omega, by omega⟩
end
section
variable (a b c d : Int × Int)
/-- whether segments ab and cd meet -/
def sxp : Bool := sx a.1 a.2 b.1 b.2 c.1 c.2 d.1 d.2
theorem sxp_swap1 : sxp b a c d = sxp a b c d := by
  unfold sxp
  rw [sx_or, sx_or]
  have e1 : apt b a c d ↔ apt a b c d := by unfold apt; omega
  have e2 : ((b.1 = c.1 ∧ b.2 = c.2) ∨ (b.1 = d.1 ∧ b.2 = d.2) ∨ (a.1 = c.1 ∧ a.2 = c.2) ∨ (a.1 = d.1 ∧ a.2 = d.2)) ↔ ((a.1 = c.1 ∧ a.2 = c.2) ∨ (a.1 = d.1 ∧ a.2 = d.2) ∨ (b.1 = c.1 ∧ b.2 = c.2) ∨ (b.1 = d.1 ∧ b.2 = d.2)) := by
    constructor
    · rintro (h | h | h | h)
      · exact .inr (.inr (.inl h))
      · exact .inr (.inr (.inr h))
      · exact .inl h
      · exact .inr (.inl h)
    · rintro (h | h | h | h)
      · exact .inr (.inr (.inl h))
      · exact .inr (.inr (.inr h))
      · exact .inl h
      · exact .inr (.inl h)
  have e3 : (side b.1 b.2 a.1 a.2 c.1 c.2 = 0) ↔ (side a.1 a.2 b.1 b.2 c.1 c.2 = 0) := by rw [side_swap]; omega
  simp only [e1, e2, e3, rcOn_swap (Bx := b.1) (By := b.2) (Ax := a.1) (Ay := a.2), meets_swap (Bx := b.1) (By := b.2) (Ax := a.1) (Ay := a.2)]
theorem sxp_swap2 : sxp a b d c = sxp a b c d := by
  unfold sxp
  rw [sx_or, sx_or]
  have e1 : apt a b d c ↔ apt a b c d := by unfold apt; omega
  have e2 : ((a.1 = d.1 ∧ a.2 = d.2) ∨ (a.1 = c.1 ∧ a.2 = c.2) ∨ (b.1 = d.1 ∧ b.2 = d.2) ∨ (b.1 = c.1 ∧ b.2 = c.2)) ↔ ((a.1 = c.1 ∧ a.2 = c.2) ∨ (a.1 = d.1 ∧ a.2 = d.2) ∨ (b.1 = c.1 ∧ b.2 = c.2) ∨ (b.1 = d.1 ∧ b.2 = d.2)) := by
    constructor
    · rintro (h | h | h | h)
      · exact .inr (.inl h)
      · exact .inl h
      · exact .inr (.inr (.inr h))
      · exact .inr (.inr (.inl h))
    · rintro (h | h | h | h)
      · exact .inr (.inl h)
      · exact .inl h
      · exact .inr (.inr (.inr h))
      · exact .inr (.inr (.inl h))
  simp only [e1, e2]
  split
  · rfl
  split
  · rfl
  by_cases h1 : side a.1 a.2 b.1 b.2 c.1 c.2 = 0
  · by_cases h2 : side a.1 a.2 b.1 b.2 d.1 d.2 = 0
    · rw [if_pos h1, if_pos h2, Bool.or_comm]
    · rw [if_pos h1, if_neg h2, meets_swap2, on_iff h1 h2, on_side h2, Bool.or_false]
  · by_cases h2 : side a.1 a.2 b.1 b.2 d.1 d.2 = 0
    · rw [if_neg h1, if_pos h2, ← meets_swap2, on_iff h2 h1, on_side h1, Bool.or_false]
    · rw [if_neg h1, if_neg h2, meets_swap2]
variable {a b c d}
theorem sxp_pt (h : sxp a b c c = true) : rcOn a.1 a.2 b.1 b.2 c.1 c.2 = true := by
  unfold sxp at h
  rw [sx_or] at h
  split at h
  · cases h
  split at h
  · rename_i h1
    rcases h1 with h1 | h1 | h1 | h1
    · exact on_end (.inl h1)
    · exact on_end (.inl h1)
    · exact on_end (.inr h1)
    · exact on_end (.inr h1)
  split at h
  · simpa using h
  · rename_i h1
    unfold meets at h
    have := (of_decide_eq_true h).1
    unfold apartB at this
    omega
theorem sxp_on (h : rcOn a.1 a.2 b.1 b.2 d.1 d.2 = true) (c : Int × Int) : sxp a b c d = true := by
  unfold sxp
  rw [sx_or, if_neg (by have := on_box h; unfold apt; omega)]
  split
  · rfl
  have h0 : side a.1 a.2 b.1 b.2 d.1 d.2 = 0 := by
    by_cases e : side a.1 a.2 b.1 b.2 d.1 d.2 = 0
    · exact e
    · rw [on_side e] at h; cases h
  split
  · rw [h, Bool.or_true]
  · rename_i h1
    rw [← meets_swap2, on_iff h0 h1, h]
end
end PF
namespace Go.Proofs.YtlpibeloedfbdaaGreat
open Go.RowKit PF JR
/-- two rings that are alike -/
structure Like (l m : List (Int × Int)) : Prop where
  box : ppB true l = ppB true m
  has : ∀ p al, ringHas l p al = ringHas m p al
  any : ∀ F : Int × Int → Int × Int → Bool, (∀ a b, F a b = F b a) → (∀ p q, F p p = true → F q p = true) → anyN (fun k => F (at' l k) (nxp l k)) (nSeg true l) = anyN (fun k => F (at' m k) (nxp m k)) (nSeg true m)
  two : ∀ F : Int × Int → Int × Int → Bool, (∀ a b, F a b = F b a) → (∀ p q, F p p = true → F q p = true) → decide (2 ≤ cntN (fun k => F (at' l k) (nxp l k)) (nSeg true l)) = decide (2 ≤ cntN (fun k => F (at' m k) (nxp m k)) (nSeg true m))
  pts : ∀ F : Int × Int → Bool, anyN (fun k => F (at' l k)) l.length = anyN (fun k => F (at' m k)) m.length
theorem Like.refl (l : List (Int × Int)) : Like l l := ⟨rfl, fun _ _ => rfl, fun _ _ _ => rfl, fun _ _ _ => rfl, fun _ => rfl⟩
theorem Like.symm {l m : List (Int × Int)} (h : Like l m) : Like m l := ⟨h.box.symm, fun p al => (h.has p al).symm, fun F a b => (h.any F a b).symm, fun F a b => (h.two F a b).symm, fun F => (h.pts F).symm⟩
theorem Like.trans {l m n : List (Int × Int)} (h : Like l m) (g : Like m n) : Like l n := ⟨h.box.trans g.box, fun p al => (h.has p al).trans (g.has p al), fun F a b => (h.any F a b).trans (g.any F a b), fun F a b => (h.two F a b).trans (g.two F a b), fun F => (h.pts F).trans (g.pts F)⟩
/-- the ring l and the segment ab -/
def risP (l : List (Int × Int)) (a b : Int × Int) : Bool := bmB (min a.1 b.1, min a.2 b.2, max a.1 b.1, max a.2 b.2) (ppB true l) && (ringHas l a true || ringHas l b true || decide (2 ≤ cntN (fun k => sxp a b (at' l k) (nxp l k)) (nSeg true l)))
/-- the ring l holds the segment ab, off its edge -/
def rcsP (l : List (Int × Int)) (a b : Int × Int) : Bool := inB (ppB true l) a && (inB (ppB true l) b && (ringHas l a false && (decide (b.1 = a.1 ∧ b.2 = a.2) || (ringHas l b false && (ppV true l || !anyN (fun k => sxp a b (at' l k) (nxp l k)) (nSeg true l))))))
section
variable {l l' m m' : List (Int × Int)} {a b p q : Int × Int}
theorem risP_like (h : Like l l') (a b : Int × Int) : risP l a b = risP l' a b := by
  unfold risP
  rw [h.box, h.has, h.has, h.two (sxp a b) (fun c d => (sxp_swap2 a b c d).symm) (fun p q e => sxp_on (sxp_pt e) q)]
theorem rcsP_like (h : Like l l') (hc : ppV true l = ppV true l') (a b : Int × Int) : rcsP l a b = rcsP l' a b := by
  unfold rcsP
  rw [h.box, h.has, h.has, hc, h.any (sxp a b) (fun c d => (sxp_swap2 a b c d).symm) (fun p q e => sxp_on (sxp_pt e) q)]
theorem risP_swap (l : List (Int × Int)) (a b : Int × Int) : risP l a b = risP l b a := by
  unfold risP
  rw [Int.min_comm a.1, Int.min_comm a.2, Int.max_comm a.1, Int.max_comm a.2, Bool.or_comm (ringHas l a true), cntN_congr fun k _ => sxp_swap1 b a (at' l k) (nxp l k)]
theorem rcsP_swap (l : List (Int × Int)) (a b : Int × Int) : rcsP l a b = rcsP l b a := by
  by_cases e : b = a
  · rw [e]
  have e1 : decide (b.1 = a.1 ∧ b.2 = a.2) = false := decide_eq_false fun h => e (Prod.ext h.1 h.2)
  have e2 : decide (a.1 = b.1 ∧ a.2 = b.2) = false := decide_eq_false fun h => e (Prod.ext h.1 h.2).symm
  unfold rcsP
  rw [e1, e2, anyN_congr fun k _ => sxp_swap1 b a (at' l k) (nxp l k)]
  generalize inB (ppB true l) a = x1
  generalize inB (ppB true l) b = x2
  generalize ringHas l a false = x3
  generalize ringHas l b false = x4
  cases x1 <;> cases x2 <;> cases x3 <;> cases x4 <;> rfl
theorem aon_any (l : List (Int × Int)) (p : Int × Int) : ∀ n, aon l p n = anyN (ron l p) n := by
  intro n
  induction n with
  | zero => rfl
  | succ n ih => rw [aon, anyN, ih]
theorem cntN_pos {f : Nat → Bool} : ∀ {n : Nat}, 0 < cntN f n → ∃ k, k < n ∧ f k = true := by
  intro n
  induction n with
  | zero => intro h; cases h
  | succ n ih =>
    intro h
    rw [cntN] at h
    cases e : f n with
    | true => exact ⟨n, by omega, e⟩
    | false =>
      rw [e] at h
      obtain ⟨k, hk, g⟩ := ih (by simpa using h)
      exact ⟨k, by omega, g⟩
theorem sxp_deg (h : sxp p p a b = true) : rcOn a.1 a.2 b.1 b.2 p.1 p.2 = true := by
  unfold sxp at h
  rw [sx_or] at h
  split at h
  · cases h
  split at h
  · rename_i h1
    rcases h1 with h1 | h1 | h1 | h1
    · exact on_end (.inl ⟨h1.1.symm, h1.2.symm⟩)
    · exact on_end (.inr ⟨h1.1.symm, h1.2.symm⟩)
    · exact on_end (.inl ⟨h1.1.symm, h1.2.symm⟩)
    · exact on_end (.inr ⟨h1.1.symm, h1.2.symm⟩)
  rw [if_pos (by unfold side; simp)] at h
  rw [Bool.or_eq_true] at h
  rcases h with h | h
  · have := on_box h
    exact on_end (.inl ⟨by omega, by omega⟩)
  · have := on_box h
    exact on_end (.inr ⟨by omega, by omega⟩)
theorem risP_deg (h3 : 3 ≤ l.length) (h : risP l p p = true) (q : Int × Int) : risP l q p = true := by
  unfold risP at h ⊢
  rw [Bool.and_eq_true] at h ⊢
  obtain ⟨h1, h2⟩ := h
  refine ⟨?_, ?_⟩
  · unfold bmB at h1 ⊢
    have h1 := of_decide_eq_true h1
    rw [decide_eq_true_iff]
    simp only at h1 ⊢
    omega
  · have hp : ringHas l p true = true := by
      rw [Bool.or_self, Bool.or_eq_true] at h2
      rcases h2 with h2 | h2
      · exact h2
      · obtain ⟨k, hk, e⟩ := cntN_pos (Nat.lt_of_lt_of_le (by decide : 0 < 2) (of_decide_eq_true h2))
        have := anyN_hit (f := ron l p) (Nat.lt_of_lt_of_le hk (nSeg_le _ _)) (sxp_deg e)
        rw [ringHas_al true h3, aon_any, this]
        rfl
    rw [hp, Bool.or_true, Bool.true_or]
theorem rcsP_deg (h : (!rcsP l p p) = true) (q : Int × Int) : (!rcsP l q p) = true := by
  cases e : rcsP l q p with
  | false => rfl
  | true =>
    exfalso
    have : rcsP l p p = true := by
      unfold rcsP at e ⊢
      simp only [Bool.and_eq_true, Bool.or_eq_true] at e ⊢
      obtain ⟨e1, e2, e3, e4⟩ := e
      refine ⟨e2, e2, ?_, .inl (by simp)⟩
      rcases e4 with e4 | e4
      · have e4 := of_decide_eq_true e4
        rw [Prod.ext e4.1 e4.2]
        exact e3
      · exact e4.1
    rw [this] at h
    cases h
theorem rirV_like (h : Like l l') (g : Like m m') (h3 : 3 ≤ l.length) (g3 : 3 ≤ m.length) : rirV l m = rirV l' m' := by
  unfold rirV
  rw [h.box, g.box]
  have e1 : anyN (risV m l) (nSeg true l) = anyN (risV m' l') (nSeg true l') := (h.any (risP m) (risP_swap m) (fun p q e => risP_deg g3 e q)).trans (anyN_congr fun k _ => risP_like g _ _)
  have e2 : anyN (risV l m) (nSeg true m) = anyN (risV l' m') (nSeg true m') := (g.any (risP l) (risP_swap l) (fun p q e => risP_deg h3 e q)).trans (anyN_congr fun k _ => risP_like h _ _)
  rw [e1, e2]
theorem rilV_like (h : Like l l') : rilV l m = rilV l' m := by
  unfold rilV
  rw [h.box, anyN_congr fun k _ => h.has (at' m k) true, anyN_congr (f := risV l m) fun k _ => risP_like h _ _]
  rfl
theorem rcrV_like2 (g : Like m m') : rcrV l true m = rcrV l true m' := by
  unfold rcrV allN
  rw [g.box]
  have e1 := g.pts fun p => !ringHas l p false
  have e2 : anyN (fun k => !rcsV l m k) (nSeg true m) = anyN (fun k => !rcsV l m' k) (nSeg true m') := g.any (fun a b => !rcsP l a b) (fun a b => by rw [rcsP_swap]) (fun p q e => rcsP_deg e q)
  simp only [e1, e2]
theorem rcrV_like1 (h : Like l l') (hc : ppV true l = ppV true l') (cl : Bool) : rcrV l cl m = rcrV l' cl m := by
  unfold rcrV
  rw [h.box, hc, allN_congr fun k _ => h.has (at' m k) false, allN_congr (f := rcsV l m) fun k _ => rcsP_like h hc _ _]
  rfl
variable {H G : List (List (Int × Int))}
theorem polV_like (h : Like l l') (g : Like m m') (h3 : 3 ≤ l.length) (g3 : 3 ≤ m.length) : polV l H m G = polV l' H m' G := by
  unfold polV
  rw [rirV_like g h g3 h3, anyN_congr fun k _ => rcrV_like2 g, anyN_congr (f := fun k => rcrV (G.getD k []) true l) fun k _ => rcrV_like2 h]
theorem polLV_like (h : Like l l') : polLV l H m = polLV l' H m := by
  unfold polLV
  rw [rilV_like h]
theorem polHas_like (h : Like l l') (p : Int × Int) : polHas l H p = polHas l' H p := by
  unfold polHas
  rw [h.has]
end
end Go.Proofs.YtlpibeloedfbdaaGreat
set_option linter.unusedSimpArgs false
set_option linter.unusedVariables false
/-! FnTurnMeets: the plain law. -/
namespace Go.Proofs.YtlpibeloedfbdaaGreat
open Go.RowKit PF JR
/-- four corners, closed -/
def qd (p0 p1 p2 p3 : Int × Int) : List (Int × Int) := [p0, p1, p2, p3, p0]
theorem qd_seg (p0 p1 p2 p3 : Int × Int) : nSeg true (qd p0 p1 p2 p3) = 4 := by simp [nSeg, qd]
theorem qd_has (p0 p1 p2 p3 p : Int × Int) (al : Bool) : ringHas (qd p0 p1 p2 p3) p al = (inB (ppB true (qd p0 p1 p2 p3)) p &&
    ((((((false || rcOn p0.1 p0.2 p1.1 p1.2 p.1 p.2) || rcOn p1.1 p1.2 p2.1 p2.2 p.1 p.2) || rcOn p2.1 p2.2 p3.1 p3.2 p.1 p.2) || rcOn p3.1 p3.2 p0.1 p0.2 p.1 p.2) && al) ||
      (!((((false || rcOn p0.1 p0.2 p1.1 p1.2 p.1 p.2) || rcOn p1.1 p1.2 p2.1 p2.2 p.1 p.2) || rcOn p2.1 p2.2 p3.1 p3.2 p.1 p.2) || rcOn p3.1 p3.2 p0.1 p0.2 p.1 p.2) &&
        ((((false != rcIn p0.1 p0.2 p1.1 p1.2 p.1 p.2) != rcIn p1.1 p1.2 p2.1 p2.2 p.1 p.2) != rcIn p2.1 p2.2 p3.1 p3.2 p.1 p.2) != rcIn p3.1 p3.2 p0.1 p0.2 p.1 p.2)))) := by
  unfold ringHas
  rw [qd_seg]
  rfl
section
variable {KK S DX DY : Int}
end
end Go.Proofs.YtlpibeloedfbdaaGreat
set_option linter.unusedSimpArgs false
set_option linter.unusedVariables false
/-! A ring that begins at another of its points, or goes the other way round, is alike. -/
namespace Go.Proofs.YtlpibeloedfbdaaGreat
open Go.RowKit PF JR
theorem cntN_shift {f : Nat → Bool} : ∀ n, cntN (fun k => f (k + 1)) n + (if f 0 = true then 1 else 0) = cntN f (n + 1) := by
  intro n
  induction n with
  | zero => simp [cntN]
  | succ n ih =>
    rw [cntN, cntN, ← ih]
    omega
theorem cntN_rot {f : Nat → Bool} {n : Nat} (hp : ∀ k, f (k + n) = f k) (a : Nat) : cntN (fun k => f (a + k)) n = cntN f n := by
  induction a with
  | zero => exact cntN_congr fun k _ => by rw [Nat.zero_add]
  | succ a ih =>
    have h := cntN_shift (f := fun k => f (a + k)) n
    rw [cntN] at h
    have e : cntN (fun k => f (a + 1 + k)) n = cntN (fun k => f (a + (k + 1))) n := cntN_congr fun k _ => by rw [Nat.add_assoc, Nat.add_comm 1 k]
    simp only [Nat.add_zero, hp a] at h
    omega
theorem cntN_rev {f : Nat → Bool} : ∀ n, cntN (fun k => f (n - 1 - k)) n = cntN f n := by
  intro n
  induction n with
  | zero => rfl
  | succ n ih =>
    have h := cntN_shift (f := fun k => f (n - k)) n
    have e1 : cntN (fun k => f (n - (k + 1))) n = cntN (fun k => f (n - 1 - k)) n := cntN_congr fun k _ => by rw [show n - (k + 1) = n - 1 - k from by omega]
    have e2 : cntN (fun k => f (n + 1 - 1 - k)) (n + 1) = cntN (fun k => f (n - k)) (n + 1) := cntN_congr fun k _ => by rw [Nat.add_sub_cancel]
    rw [e2, ← h, e1, ih, cntN]
    simp only [Nat.sub_zero]
theorem anyN_cnt {f : Nat → Bool} : ∀ n, anyN f n = decide (0 < cntN f n) := by
  intro n
  induction n with
  | zero => rfl
  | succ n ih =>
    rw [anyN, cntN, ih]
    cases f n <;> simp
theorem xrs_cnt (l : List (Int × Int)) (p : Int × Int) : ∀ n, xrs l p n = decide (cntN (rin l p) n % 2 = 1) := by
  intro n
  induction n with
  | zero => rfl
  | succ n ih =>
    rw [xrs, cntN, ih]
    cases rin l p n with
    | false => simp
    | true =>
      rcases Nat.mod_two_eq_zero_or_one (cntN (rin l p) n) with h | h
      · have : (cntN (rin l p) n + 1) % 2 = 1 := by omega
        simp [h, this]
      · have : (cntN (rin l p) n + 1) % 2 = 0 := by omega
        simp [h, this]
theorem nxp_cyc {l : List (Int × Int)} {k : Nat} (h : k < l.length) : nxp l k = cyc l (k + 1) := by
  unfold nxp cyc
  by_cases e : k = l.length - 1
  · rw [if_pos e, show k + 1 = l.length from by omega, Nat.mod_self]
  · rw [if_neg e, Nat.mod_eq_of_lt (by omega)]
theorem seg_cnt (l : List (Int × Int)) (a : Nat) (back : Bool) (h : 0 < l.length) (F : Int × Int → Int × Int → Bool) (hF : ∀ a b, F a b = F b a) :
    cntN (fun k => F (at' (bgn l a back) k) (nxp (bgn l a back) k)) l.length = cntN (fun k => F (at' l k) (nxp l k)) l.length := by
  have hp : ∀ k, (fun j => F (cyc l j) (cyc l (j + 1))) (k + l.length) = (fun j => F (cyc l j) (cyc l (j + 1))) k := fun k => by
    simp only
    rw [cyc_add, show k + l.length + 1 = k + 1 + l.length from by omega, cyc_add]
  have e0 : cntN (fun k => F (at' l k) (nxp l k)) l.length = cntN (fun j => F (cyc l j) (cyc l (j + 1))) l.length := cntN_congr fun k hk => by rw [cyc_at hk, nxp_cyc hk]
  have hm := bgn_len l a back
  rw [e0]
  cases back with
  | false =>
    refine Eq.trans ?_ (cntN_rot (f := fun j => F (cyc l j) (cyc l (j + 1))) hp a)
    refine cntN_congr fun k hk => ?_
    rw [← cyc_at (by omega), nxp_cyc (by omega), bgn_cyc l a h, bgn_cyc l a h]
    rfl
  | true =>
    refine Eq.trans ?_ ((cntN_rev (f := fun j => (fun j => F (cyc l j) (cyc l (j + 1))) (a + l.length + j)) l.length).trans (cntN_rot (f := fun j => F (cyc l j) (cyc l (j + 1))) hp (a + l.length)))
    refine cntN_congr fun k hk => ?_
    rw [← cyc_at (by omega), nxp_cyc (by omega), bgn_cycB l a h k (by omega), bgn_cycB l a h (k + 1) (by omega), hF]
    simp only
    rw [show a + 2 * l.length - (k + 1) = a + l.length + (l.length - 1 - k) from by omega, show a + 2 * l.length - k = a + l.length + (l.length - 1 - k) + 1 from by omega]
theorem nS {l : List (Int × Int)} (h3 : 3 ≤ l.length) : nSeg true l = l.length ∨ (nSeg true l = l.length - 1 ∧ at' l (l.length - 1) = at' l 0) := by
  unfold nSeg
  rw [if_pos rfl, if_neg (by omega)]
  by_cases e : l[l.length - 1]? = l[0]?
  · rw [if_pos e]
    rw [at_get (show l.length - 1 < l.length by omega), at_get (show 0 < l.length by omega)] at e
    exact .inr ⟨rfl, Option.some.inj e⟩
  · rw [if_neg e]
    exact .inl rfl
section
variable {l : List (Int × Int)} {F : Int × Int → Int × Int → Bool}
theorem seg_last (h3 : 3 ≤ l.length) (e : at' l (l.length - 1) = at' l 0) (hF : ∀ a b, F a b = F b a) (hd : ∀ p q, F p p = true → F q p = true) (h : F (at' l (l.length - 1)) (nxp l (l.length - 1)) = true) :
    F (at' l 0) (nxp l 0) = true ∧ F (at' l (l.length - 2)) (nxp l (l.length - 2)) = true := by
  have e1 : nxp l (l.length - 1) = at' l 0 := by unfold nxp; rw [if_pos rfl]
  have e2 : nxp l (l.length - 2) = at' l (l.length - 1) := by unfold nxp; rw [if_neg (by omega), show l.length - 2 + 1 = l.length - 1 from by omega]
  rw [e1, e] at h
  refine ⟨?_, ?_⟩
  · rw [hF]; exact hd _ _ h
  · rw [e2, e]; exact hd _ _ h
theorem any_full (h3 : 3 ≤ l.length) (hF : ∀ a b, F a b = F b a) (hd : ∀ p q, F p p = true → F q p = true) : anyN (fun k => F (at' l k) (nxp l k)) (nSeg true l) = anyN (fun k => F (at' l k) (nxp l k)) l.length := by
  rcases nS h3 with h | ⟨h, e⟩
  · rw [h]
  · rw [h]
    obtain ⟨n, hn⟩ : ∃ n, l.length = n + 1 := ⟨l.length - 1, by omega⟩
    cases g : F (at' l (l.length - 1)) (nxp l (l.length - 1)) with
    | false =>
      rw [hn] at g ⊢
      rw [anyN, Nat.add_sub_cancel]
      simp only [Nat.add_sub_cancel] at g
      simp only [g, Bool.or_false]
    | true =>
      have h0 := (seg_last h3 e hF hd g).1
      rw [anyN_hit (f := fun k => F (at' l k) (nxp l k)) (show 0 < l.length - 1 by omega) h0, anyN_hit (f := fun k => F (at' l k) (nxp l k)) (show 0 < l.length by omega) h0]
theorem two_full (h3 : 3 ≤ l.length) (hF : ∀ a b, F a b = F b a) (hd : ∀ p q, F p p = true → F q p = true) : decide (2 ≤ cntN (fun k => F (at' l k) (nxp l k)) (nSeg true l)) = decide (2 ≤ cntN (fun k => F (at' l k) (nxp l k)) l.length) := by
  rcases nS h3 with h | ⟨h, e⟩
  · rw [h]
  · rw [h]
    obtain ⟨n, hn⟩ : ∃ n, l.length = n + 1 := ⟨l.length - 1, by omega⟩
    cases g : F (at' l (l.length - 1)) (nxp l (l.length - 1)) with
    | false =>
      rw [hn] at g ⊢
      rw [cntN, Nat.add_sub_cancel]
      simp only [Nat.add_sub_cancel] at g
      simp [g]
    | true =>
      obtain ⟨h0, h2⟩ := seg_last h3 e hF hd g
      have k2 : 2 ≤ cntN (fun k => F (at' l k) (nxp l k)) (l.length - 1) := by
        obtain ⟨j, hj⟩ : ∃ j, l.length - 1 = j + 1 := ⟨l.length - 2, by omega⟩
        have hj2 : l.length - 2 = j := by omega
        rw [hj2] at h2
        rw [hj, cntN]
        have := cntN_le (f := fun k => F (at' l k) (nxp l k)) (show 1 ≤ j by omega)
        rw [cntN, cntN] at this
        simp only [h0, h2, if_true] at this ⊢
        omega
      have := cntN_le (f := fun k => F (at' l k) (nxp l k)) (show l.length - 1 ≤ l.length by omega)
      rw [decide_eq_true k2, decide_eq_true (Nat.le_trans k2 this)]
theorem pts_any (l : List (Int × Int)) (F : Int × Int → Bool) : anyN (fun k => F (at' l k)) l.length = l.any F := by
  rw [Bool.eq_iff_iff, anyN_iff, List.any_eq_true]
  constructor
  · rintro ⟨k, hk, e⟩
    exact ⟨_, List.mem_of_getElem? (at_get hk), e⟩
  · rintro ⟨p, hp, e⟩
    obtain ⟨k, hk⟩ := List.mem_iff_getElem?.1 hp
    have hlt : k < l.length := by
      rcases Nat.lt_or_ge k l.length with h | h
      · exact h
      · rw [List.getElem?_eq_none h] at hk; cases hk
    rw [at_get hlt] at hk
    exact ⟨k, hlt, by rw [Option.some.inj hk]; exact e⟩
end
theorem ppB_3 {l : List (Int × Int)} (h3 : 3 ≤ l.length) : ppB true l = box l := by
  unfold ppB tooS
  rw [if_neg (by simp; omega)]
/-- **a ring that begins at another of its points is alike** -/
theorem bgn_like (l : List (Int × Int)) (a : Nat) (back : Bool) (h3 : 3 ≤ l.length) : Like l (bgn l a back) := by
  have hm := bgn_len l a back
  have hm3 : 3 ≤ (bgn l a back).length := by omega
  have h0 : 0 < l.length := by omega
  refine ⟨?_, fun p al => ?_, fun F hF hd => ?_, fun F hF hd => ?_, fun F => ?_⟩
  · rw [ppB_3 h3, ppB_3 hm3, bgn_box l a back h0]
  · have e1 := seg_cnt l a back h0 (fun a b => rcOn a.1 a.2 b.1 b.2 p.1 p.2) (fun a b => rcOn_swap)
    have e2 := seg_cnt l a back h0 (fun a b => rcIn a.1 a.2 b.1 b.2 p.1 p.2) (fun a b => rcIn_swap)
    rw [ringHas_al al h3, ringHas_al al hm3, aon_any, aon_any, anyN_cnt, anyN_cnt, xrs_cnt, xrs_cnt, hm]
    have e1 : cntN (ron (bgn l a back) p) l.length = cntN (ron l p) l.length := e1
    have e2 : cntN (rin (bgn l a back) p) l.length = cntN (rin l p) l.length := e2
    rw [e1, e2]
  · rw [any_full h3 hF hd, any_full hm3 hF hd, anyN_cnt, anyN_cnt, hm, seg_cnt l a back h0 F hF]
  · rw [two_full h3 hF hd, two_full hm3 hF hd, hm, seg_cnt l a back h0 F hF]
  · rw [pts_any, pts_any, Bool.eq_iff_iff, List.any_eq_true, List.any_eq_true]
    simp only [bgn_mem l a back h0]
end Go.Proofs.YtlpibeloedfbdaaGreat
set_option linter.unusedSimpArgs false
set_option linter.unusedVariables false
/-! The plain law of FnClosedAlike: a ring whose first point stands at its end again. -/
namespace Go.Proofs.YtlpibeloedfbdaaGreat
open Go.RowKit PF JR
/-- the ring with its first point at its end again -/
def cls (l : List (Int × Int)) : List (Int × Int) := l ++ [at' l 0]
theorem cls_len (l : List (Int × Int)) : (cls l).length = l.length + 1 := by simp [cls]
theorem cls_at {l : List (Int × Int)} {k : Nat} (h : k < l.length) : at' (cls l) k = at' l k := by
  unfold cls at'
  simp [List.getD, List.getElem?_append, h]
theorem cls_last (l : List (Int × Int)) : at' (cls l) l.length = at' l 0 := by
  unfold cls at'
  simp [List.getD]
theorem cls_nxp {l : List (Int × Int)} {k : Nat} (h : k < l.length) : nxp (cls l) k = nxp l k := by
  unfold nxp
  rw [cls_len, if_neg (by omega)]
  by_cases e : k = l.length - 1
  · rw [if_pos e, show k + 1 = l.length from by omega, cls_last]
  · rw [if_neg e, cls_at (by omega)]
theorem cls_mem {l : List (Int × Int)} (h : 0 < l.length) (p : Int × Int) : p ∈ cls l ↔ p ∈ l := by
  unfold cls
  rw [List.mem_append, List.mem_singleton]
  constructor
  · rintro (h1 | h1)
    · exact h1
    · rw [h1]; exact List.mem_of_getElem? (at_get h)
  · exact .inl
theorem cls_nS {l : List (Int × Int)} (h3 : 3 ≤ l.length) : nSeg true (cls l) = l.length := by
  rcases nS (l := cls l) (by rw [cls_len]; omega) with h | ⟨h, -⟩
  · exfalso
    unfold nSeg at h
    rw [if_pos rfl, cls_len, if_neg (by omega), Nat.add_sub_cancel] at h
    have e : (cls l)[l.length]? = (cls l)[0]? := by
      rw [at_get (show l.length < (cls l).length by rw [cls_len]; omega), at_get (show 0 < (cls l).length by rw [cls_len]; omega), cls_last, cls_at (by omega)]
    rw [if_pos e] at h
    omega
  · rw [h, cls_len, Nat.add_sub_cancel]
theorem nS_ne {l : List (Int × Int)} (h3 : 3 ≤ l.length) (hne : at' l 0 ≠ at' l (l.length - 1)) : nSeg true l = l.length := by
  rcases nS h3 with h | ⟨-, h⟩
  · exact h
  · exact absurd h.symm hne
theorem cls_box {l : List (Int × Int)} (h3 : 3 ≤ l.length) : ppB true (cls l) = ppB true l := by
  rw [ppB_3 h3, ppB_3 (by rw [cls_len]; omega)]
  exact box_mem (by omega) (by rw [cls_len]; omega) fun p => cls_mem (by omega) p
/-- **a ring whose first point stands at its end again is alike** -/
theorem cls_like {l : List (Int × Int)} (h3 : 3 ≤ l.length) (hne : at' l 0 ≠ at' l (l.length - 1)) : Like l (cls l) := by
  have n1 := nS_ne h3 hne
  have n2 := cls_nS h3
  refine ⟨(cls_box h3).symm, fun p al => ?_, fun F _ _ => ?_, fun F _ _ => ?_, fun F => ?_⟩
  · unfold ringHas
    have e1 : aon l p l.length = aon (cls l) p l.length := by
      rw [aon_any, aon_any]
      exact anyN_congr fun k hk => by unfold ron; rw [cls_at hk, cls_nxp hk]
    have e2 : xrs l p l.length = xrs (cls l) p l.length := by
      rw [xrs_cnt, xrs_cnt, cntN_congr fun k hk => show rin l p k = rin (cls l) p k by unfold rin; rw [cls_at hk, cls_nxp hk]]
    rw [cls_box h3, n1, n2, e1, e2]
  · rw [n1, n2]
    exact anyN_congr fun k hk => by rw [cls_at hk, cls_nxp hk]
  · rw [n1, n2, cntN_congr fun k hk => show F (at' l k) (nxp l k) = F (at' (cls l) k) (nxp (cls l) k) by rw [cls_at hk, cls_nxp hk]]
  · rw [pts_any, pts_any, Bool.eq_iff_iff, List.any_eq_true, List.any_eq_true]
    simp only [cls_mem (show 0 < l.length by omega)]
end Go.Proofs.YtlpibeloedfbdaaGreat
