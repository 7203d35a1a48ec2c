import Derived.Test.YtbeoijpdacpaaaaGreatQM
import Derived.Test.YtbeoijpdacpaaaaGreatQR
import Derived.Test.YtbeoijpdacpaaaaGreatQY
import Derived.Test.YtbeoijpdacpaaaaGreatQW
import Derived.Test.YtbeoijpdacpaaaaGreatHp
import Derived.Test.YtbeoijpdacpaaaaGreatQZ
import Derived.Test.YtbeoijpdacpaaaaGreatYi
import Derived.Test.YtbeoijpdacpaaaaGreatQO
set_option linter.unusedSimpArgs false
set_option linter.unusedVariables false
/-! Within a drawn region: several stores into cells of one block that was there before. -/
namespace JR
open Go Go.RowKit
/-- cell off of block b, a row of n cells, holds slot t's value; it held v0 -/
def Ent.cel (b off : Nat) (v0 : Value) (t n : Nat) (T : TypeId) : Ent where
  E := fun _ _ _ a w => ∃ cs, w.heap[b]? = some (.cells cs T (0, 0)) ∧ cs.size = n ∧ cs[off]? = some (a.eval (.tmp t))
  sl := [t]
  old := [b]
  still := false
  news := false
  pre := fun w => ∃ cs, w.heap[b]? = some (.cells cs T (0, 0)) ∧ cs.size = n ∧ cs[off]? = some v0
  hsl := fun _ _ _ a a' _ h ⟨cs, h1, h2, h3⟩ => ⟨cs, h1, h2, by rw [← h t (by simp)]; exact h3⟩
  hext := fun _ _ _ _ _ _ _ e ⟨cs, h1, h2, h3⟩ => ⟨cs, (e.block b (lt_of_some h1)).trans h1, h2, h3⟩
  hstill := fun h => Bool.noConfusion h
  hnews := fun h => Bool.noConfusion h
  hrow := fun _ _ _ _ _ _ _ _ _ ho ⟨cs, h1, h2, h3⟩ => ⟨cs, (setRow_other (fun he => ho (by simp [he]))).trans h1, h2, h3⟩
  hpext := fun _ _ e ⟨cs, h1, h2, h3⟩ => ⟨cs, (e.block b (lt_of_some h1)).trans h1, h2, h3⟩
  hprow := fun _ _ _ ho ⟨cs, h1, h2, h3⟩ => ⟨cs, (setRow_other (fun he => ho (by simp [he]))).trans h1, h2, h3⟩
/-- all other operations are known by their values alone, or store into other cells of that block -/
def celL (b off i n : Nat) (T : TypeId) : Nat → List Ent → Prop
  | _, [] => True
  | k, e :: es => (k = i ∨ (e.still = true ∧ ∀ w w', e.pre w → e.pre w') ∨ ∃ off' v t, off' ≠ off ∧ e = .cel b off' v t n T) ∧ celL b off i n T (k + 1) es
theorem celL_get {b off i n : Nat} {T : TypeId} : ∀ (es : List Ent) (k : Nat), celL b off i n T k es → ∀ (j : Nat) (e : Ent), es[j]? = some e → k + j ≠ i → (e.still = true ∧ ∀ w w', e.pre w → e.pre w') ∨ ∃ off' v t, off' ≠ off ∧ e = .cel b off' v t n T := by
  intro es
  induction es with
  | nil => intro k _ j e h; simp at h
  | cons x es ih =>
    intro k h j e he hj
    cases j with
    | zero => simp at he; subst he; exact h.1.elim (fun h => absurd h (by omega)) id
    | succ j => exact ih (k + 1) h.2 j e (by simpa using he) (by omega)
section
variable {P : Program} {ops : Array Oper} {Q : Exit → Act → World → Prop} {G : World → Prop} {B0 : Nat} {plan : List Ent} {a0 : Act} {i : Nat} {o : Oper} {ns : List Need}
theorem OpOk.cel {ty : TypeId} {b off t n : Nat} {x : Operand} {v0 : Value} {T : TypeId} (hop : o.op = .store ty x (.tmp t)) (hg : o.guard = none)
    (hoth : celL b off i n T 0 plan) (hi : (P.info? ty).map (·.size) = some 1)
    (hf : ∀ a w, G w → facts plan a0 a w ns → a.eval x = .pointer (some ⟨b, off, none⟩) ∧ (a.eval (.tmp t)).oneCell' = true ∧ ∃ cs, w.heap[b]? = some (.cells cs T (0, 0)) ∧ cs.size = n ∧ off < n)
    (hGs : ∀ w cs v, G w → w.heap[b]? = some (.cells cs T (0, 0)) → G (w.setRow b (cs.setIfInBounds off v))) :
    OpOk P ops Q G B0 plan a0 i o (.cel b off v0 t n T) ns := by
  intro a w hG hff
  refine ⟨fun _ => ?_, fun h => by simp [Region.wanted, hg] at h⟩
  obtain ⟨h1, h2, cs, h3, h4, h5⟩ := hf a w hG hff
  have hr := run_store_cell (P := P) (a := a) (w := w) ty x (.tmp t) hop b off _ h1 rfl T cs h3 hi (by omega) h2
  unfold Oper.wp
  rw [hr]
  have key : ∀ off' v, off' ≠ off → (∃ c, w.heap[b]? = some (.cells c T (0, 0)) ∧ c.size = n ∧ c[off']? = some v) → ∃ c, (w.setRow b (cs.setIfInBounds off (a.eval (.tmp t)))).heap[b]? = some (.cells c T (0, 0)) ∧ c.size = n ∧ c[off']? = some v := by
    rintro off' v hne ⟨c, e1, e2, e3⟩
    rw [h3] at e1
    cases e1
    exact ⟨_, setRow_same h3, by simpa using e2, by rw [Array.getElem?_setIfInBounds_ne (Ne.symm hne)]; exact e3⟩
  refine ⟨undef, rfl, ⟨_, setRow_same h3, by simpa using h4, by rw [Array.getElem?_setIfInBounds_self_of_lt (by omega)]⟩, .inr fun l h _ _ => ⟨by rw [setRow_size]; exact Nat.le_refl _, hGs _ _ _ hG h3, fun j e he hji hp => ?_, fun j e he hji hst v lj hj hlj hhj _ hE => ?_⟩⟩
  · rcases celL_get plan 0 hoth j e he (by omega) with h | ⟨off', v, t', hne, rfl⟩
    · exact h.2 _ _ hp
    · exact key off' v hne hp
  · rcases celL_get plan 0 hoth j e he (by omega) with h | ⟨off', v', t', hne, rfl⟩
    · rw [h.1] at hst; cases hst
    · exact key off' _ hne hE
end
theorem arr4 {cs : Array Value} {a b c d : Value} (h : cs.size = 4) (h0 : cs[0]? = some a) (h1 : cs[1]? = some b) (h2 : cs[2]? = some c) (h3 : cs[3]? = some d) : cs = #[a, b, c, d] := by
  apply Array.ext'
  match cs, h with
  | ⟨[x0, x1, x2, x3]⟩, _ =>
    simp at h0 h1 h2 h3
    subst h0 h1 h2 h3
    rfl
end JR
set_option linter.unusedSimpArgs false
set_option linter.unusedVariables false
/-! Plain: the scene's own segments and rings (spec.GeoOn, GeoLeft, GeoMeet, RingSide), and a rectangle and a line. -/
namespace PF
theorem gsd_side (a b p : Int × Int) : gsd a b p = side a.1 a.2 b.1 b.2 p.1 p.2 := by unfold gsd side; grind
theorem gsgn_neg {m n : Int} : gsgn m * gsgn n < 0 ↔ (m < 0 ∧ 0 < n) ∨ (0 < m ∧ n < 0) := by
  unfold gsgn
  split <;> split <;> (try split) <;> (try split) <;> simp <;> omega
theorem gmt_sym (a b c d : Int × Int) : gmt a b c d = gmt c d a b := by
  unfold gmt
  cases gon a b c <;> cases gon a b d <;> cases gon c d a <;> cases gon c d b <;> simp [Bool.and_comm]
/-- off one line they meet just as the package says -/
theorem gmt_meets {a b c d : Int × Int} (ho : ovl a.1 a.2 b.1 b.2 c.1 c.2 d.1 d.2 = false) : gmt a b c d = meets a.1 a.2 b.1 b.2 c.1 c.2 d.1 d.2 := by
  obtain ⟨h1, h2⟩ := ovl_false ho
  have sw : ∀ Ax Ay Bx By Cx Cy Dx Dy : Int, meets Ax Ay Bx By Dx Dy Cx Cy = meets Ax Ay Bx By Cx Cy Dx Dy := fun Ax Ay Bx By Cx Cy Dx Dy => by
    unfold meets
    apply decide_eq_decide.2
    rw [apart_comm, side_swap (Ax := Cx) (Ay := Cy) (Bx := Dx) (By := Dy), side_swap (Ax := Cx) (Ay := Cy) (Bx := Dx) (By := Dy), apart_neg]
  have sy : meets c.1 c.2 d.1 d.2 a.1 a.2 b.1 b.2 = meets a.1 a.2 b.1 b.2 c.1 c.2 d.1 d.2 := by
    unfold meets
    apply decide_eq_decide.2
    exact And.comm
  have k1 : side a.1 a.2 b.1 b.2 c.1 c.2 = 0 → gon a b c = meets a.1 a.2 b.1 b.2 c.1 c.2 d.1 d.2 := fun h => by
    rw [gon_rc]; exact (on_iff h (h1.resolve_left (fun g => g h))).symm
  have k2 : side a.1 a.2 b.1 b.2 d.1 d.2 = 0 → gon a b d = meets a.1 a.2 b.1 b.2 c.1 c.2 d.1 d.2 := fun h => by
    rw [gon_rc, ← sw]; exact (on_iff h (h1.resolve_right (fun g => g h))).symm
  have k3 : side c.1 c.2 d.1 d.2 a.1 a.2 = 0 → gon c d a = meets a.1 a.2 b.1 b.2 c.1 c.2 d.1 d.2 := fun h => by
    rw [gon_rc, ← sy]; exact (on_iff h (h2.resolve_left (fun g => g h))).symm
  have k4 : side c.1 c.2 d.1 d.2 b.1 b.2 = 0 → gon c d b = meets a.1 a.2 b.1 b.2 c.1 c.2 d.1 d.2 := fun h => by
    rw [gon_rc, ← sy, ← sw]; exact (on_iff h (h2.resolve_right (fun g => g h))).symm
  have n1 : side a.1 a.2 b.1 b.2 c.1 c.2 ≠ 0 → gon a b c = false := fun h => by unfold gon; rw [gsd_side, decide_eq_false h, Bool.and_false]
  have n2 : side a.1 a.2 b.1 b.2 d.1 d.2 ≠ 0 → gon a b d = false := fun h => by unfold gon; rw [gsd_side, decide_eq_false h, Bool.and_false]
  have n3 : side c.1 c.2 d.1 d.2 a.1 a.2 ≠ 0 → gon c d a = false := fun h => by unfold gon; rw [gsd_side, decide_eq_false h, Bool.and_false]
  have n4 : side c.1 c.2 d.1 d.2 b.1 b.2 ≠ 0 → gon c d b = false := fun h => by unfold gon; rw [gsd_side, decide_eq_false h, Bool.and_false]
  have hm : meets a.1 a.2 b.1 b.2 c.1 c.2 d.1 d.2 = true ↔ apartB (side a.1 a.2 b.1 b.2 c.1 c.2) (side a.1 a.2 b.1 b.2 d.1 d.2) ∧ apartB (side c.1 c.2 d.1 d.2 a.1 a.2) (side c.1 c.2 d.1 d.2 b.1 b.2) := by
    unfold meets; exact decide_eq_true_iff
  unfold gmt
  rw [gsd_side, gsd_side, gsd_side, gsd_side]
  rw [Bool.eq_iff_iff, Bool.or_eq_true, Bool.or_eq_true, Bool.or_eq_true, Bool.or_eq_true, Bool.and_eq_true, decide_eq_true_iff, decide_eq_true_iff, gsgn_neg, gsgn_neg]
  generalize side a.1 a.2 b.1 b.2 c.1 c.2 = s1 at *
  generalize side a.1 a.2 b.1 b.2 d.1 d.2 = s2 at *
  generalize side c.1 c.2 d.1 d.2 a.1 a.2 = s3 at *
  generalize side c.1 c.2 d.1 d.2 b.1 b.2 = s4 at *
  clear sw sy
  generalize meets a.1 a.2 b.1 b.2 c.1 c.2 d.1 d.2 = r at *
  constructor
  · rintro ((((h | h) | h) | h) | ⟨h, h'⟩)
    · by_cases g : s1 = 0
      · rw [← k1 g]; exact h
      · rw [n1 g] at h; cases h
    · by_cases g : s2 = 0
      · rw [← k2 g]; exact h
      · rw [n2 g] at h; cases h
    · by_cases g : s3 = 0
      · rw [← k3 g]; exact h
      · rw [n3 g] at h; cases h
    · by_cases g : s4 = 0
      · rw [← k4 g]; exact h
      · rw [n4 g] at h; cases h
    · rw [hm]; unfold apartB; omega
  · intro h
    by_cases g1 : s1 = 0
    · exact .inl (.inl (.inl (.inl ((k1 g1).trans h))))
    by_cases g2 : s2 = 0
    · exact .inl (.inl (.inl (.inr ((k2 g2).trans h))))
    by_cases g3 : s3 = 0
    · exact .inl (.inl (.inr ((k3 g3).trans h)))
    by_cases g4 : s4 = 0
    · exact .inl (.inr ((k4 g4).trans h))
    obtain ⟨q1, q2⟩ := hm.1 h
    unfold apartB at q1 q2
    exact .inr ⟨by omega, by omega⟩
end PF
namespace Go.Proofs.YtbeoijpdacpaaaaGreat
open Go.RowKit PF JR
section
variable {a b c d : Int}
/-- a segment meets a side of a rectangle -/
def anyS (a b c d : Int) (A B : Int × Int) : Bool := ((gmt (a, b) (c, b) A B || gmt (c, b) (c, d) A B) || gmt (c, d) (a, d) A B) || gmt (a, d) (a, b) A B
theorem gon_in {p q x : Int × Int} (h : gon p q x = true) : min p.1 q.1 ≤ x.1 ∧ x.1 ≤ max p.1 q.1 ∧ min p.2 q.2 ≤ x.2 ∧ x.2 ≤ max p.2 q.2 := by
  unfold gon at h
  rw [Bool.and_eq_true] at h
  exact of_decide_eq_true h.1
/-- segments whose points lie on one side of each other do not meet -/
theorem gmt_same {p q A B : Int × Int} (h1 : gon p q A = false) (h2 : gon p q B = false) (h3 : gon A B p = false) (h4 : gon A B q = false) (h : (0 ≤ gsd p q A ∧ 0 ≤ gsd p q B) ∨ (gsd p q A ≤ 0 ∧ gsd p q B ≤ 0) ∨ (0 ≤ gsd A B p ∧ 0 ≤ gsd A B q) ∨ (gsd A B p ≤ 0 ∧ gsd A B q ≤ 0)) : gmt p q A B = false := by
  unfold gmt
  rw [h1, h2, h3, h4]
  rw [Bool.eq_false_iff]
  intro hh
  simp only [Bool.false_or, Bool.and_eq_true, decide_eq_true_iff, gsgn_neg] at hh
  omega
theorem out_gon {p q A : Int × Int} (h : inB (a, b, c, d) A = false) (hp : inB (a, b, c, d) p = true) (hq : inB (a, b, c, d) q = true) : gon p q A = false := by
  rw [Bool.eq_false_iff]
  intro hh
  have h1 := gon_in hh
  have hp := of_decide_eq_true hp
  have hq := of_decide_eq_true hq
  have h := of_decide_eq_false h
  simp only at hp hq h
  omega
theorem crn_in (h1 : a < c) (h2 : b < d) : inB (a, b, c, d) (a, b) = true ∧ inB (a, b, c, d) (c, b) = true ∧ inB (a, b, c, d) (c, d) = true ∧ inB (a, b, c, d) (a, d) = true := by
  unfold inB
  refine ⟨?_, ?_, ?_, ?_⟩ <;> rw [decide_eq_true_iff] <;> simp only <;> omega
theorem risP_off (h1 : a < c) (h2 : b < d) {A B : Int × Int} (oA : inB (a, b, c, d) A = false) (oB : inB (a, b, c, d) B = false) :
    risP (rl a b c d) A B = (bmB (min A.1 B.1, min A.2 B.2, max A.1 B.1, max A.2 B.2) (a, b, c, d) && decide (2 ≤ ((((0 + if sxp A B (a, b) (c, b) = true then 1 else 0) + if sxp A B (c, b) (c, d) = true then 1 else 0) + if sxp A B (c, d) (a, d) = true then 1 else 0) + if sxp A B (a, d) (a, b) = true then 1 else 0))) := by
  have e : decide (2 ≤ cntN (fun k => sxp A B (at' (rl a b c d) k) (nxp (rl a b c d) k)) (nSeg true (rl a b c d))) = _ := congrArg (fun n => decide (2 ≤ n)) (qd_cnt (a, b) (c, b) (c, d) (a, d) (sxp A B))
  unfold risP
  rw [e, rect_has h1 h2, rect_has h1 h2, rl_box (Int.le_of_lt h1) (Int.le_of_lt h2), oA, oB]
  simp only [Bool.false_or]
theorem risP_dg (h1 : a < c) (h2 : b < d) {A : Int × Int} (oA : inB (a, b, c, d) A = false) : risP (rl a b c d) A A = anyS a b c d A A := by
  obtain ⟨i1, i2, i3, i4⟩ := crn_in h1 h2
  have hne : ∀ p, inB (a, b, c, d) p = true → gon A A p = false := fun p hp => by
    rw [Bool.eq_false_iff]
    intro hh
    have h := gon_in hh
    have : p = A := Prod.ext (by omega) (by omega)
    rw [this, oA] at hp
    cases hp
  have hz : ∀ p : Int × Int, gsd A A p = 0 := fun p => by unfold gsd; simp
  have hs : ∀ p q, inB (a, b, c, d) p = true → inB (a, b, c, d) q = true → gmt p q A A = false := fun p q hp hq =>
    gmt_same (out_gon oA hp hq) (out_gon oA hp hq) (hne p hp) (hne q hq) (.inr (.inr (.inl ⟨by rw [hz]; omega, by rw [hz]; omega⟩)))
  unfold anyS
  rw [hs _ _ i1 i2, hs _ _ i2 i3, hs _ _ i3 i4, hs _ _ i4 i1, risP_off h1 h2 oA oA]
  have hb : bmB (min A.1 A.1, min A.2 A.2, max A.1 A.1, max A.2 A.2) (a, b, c, d) = false := by
    have h := of_decide_eq_false oA
    unfold bmB
    rw [decide_eq_false_iff_not]
    simp only at h ⊢
    omega
  rw [hb]
  rfl
theorem risP_hor (h1 : a < c) (h2 : b < d) {A B : Int × Int} (oA : inB (a, b, c, d) A = false) (oB : inB (a, b, c, d) B = false) {y : Int} (hA : A.2 = y) (hB : B.2 = y) (hy : b ≤ y ∧ y ≤ d) : risP (rl a b c d) A B = anyS a b c d A B := by
  obtain ⟨i1, i2, i3, i4⟩ := crn_in h1 h2
  obtain ⟨x1, y1⟩ := A
  obtain ⟨x2, y2⟩ := B
  simp only at hA hB
  subst hA hB
  have oA' : x1 < a ∨ c < x1 := by have h := of_decide_eq_false oA; simp only at h; omega
  have oB' : x2 < a ∨ c < x2 := by have h := of_decide_eq_false oB; simp only at h; omega
  rw [risP_off h1 h2 oA oB]
  by_cases hs : (x1 < a ∧ x2 < a) ∨ (c < x1 ∧ c < x2)
  · have hb : bmB (min x1 x2, min y2 y2, max x1 x2, max y2 y2) (a, b, c, d) = false := by
      unfold bmB
      rw [decide_eq_false_iff_not]
      simp only
      omega
    have hne : ∀ p, inB (a, b, c, d) p = true → gon (x1, y2) (x2, y2) p = false := fun p hp => by
      rw [Bool.eq_false_iff]
      intro hh
      have h := gon_in hh
      have hp := of_decide_eq_true hp
      simp only at h hp
      omega
    have k : ∀ m n : Int, m = n → (0 ≤ m ∧ 0 ≤ n) ∨ (m ≤ 0 ∧ n ≤ 0) := fun m n h => by omega
    have s1 : gmt (a, b) (c, b) (x1, y2) (x2, y2) = false := gmt_same (out_gon oA i1 i2) (out_gon oB i1 i2) (hne _ i1) (hne _ i2) ((k _ _ (by unfold gsd; simp)).elim .inl fun h => .inr (.inl h))
    have s3 : gmt (c, d) (a, d) (x1, y2) (x2, y2) = false := gmt_same (out_gon oA i3 i4) (out_gon oB i3 i4) (hne _ i3) (hne _ i4) ((k _ _ (by unfold gsd; simp)).elim .inl fun h => .inr (.inl h))
    have s2 : gmt (c, b) (c, d) (x1, y2) (x2, y2) = false := gmt_same (out_gon oA i2 i3) (out_gon oB i2 i3) (hne _ i2) (hne _ i3) (by
      unfold gsd
      simp only [Int.sub_self, Int.zero_mul, Int.zero_sub]
      rcases hs with ⟨g1, g2⟩ | ⟨g1, g2⟩
      · have := neg_mul (m := d - b) (n := x1 - c) (by omega) (by omega)
        have := neg_mul (m := d - b) (n := x2 - c) (by omega) (by omega)
        omega
      · have := pos_mul (m := d - b) (n := x1 - c) (by omega) (by omega)
        have := pos_mul (m := d - b) (n := x2 - c) (by omega) (by omega)
        omega)
    have s4 : gmt (a, d) (a, b) (x1, y2) (x2, y2) = false := gmt_same (out_gon oA i4 i1) (out_gon oB i4 i1) (hne _ i4) (hne _ i1) (by
      unfold gsd
      simp only [Int.sub_self, Int.zero_mul, Int.zero_sub]
      rcases hs with ⟨g1, g2⟩ | ⟨g1, g2⟩
      · have := npnp_mul (m := b - d) (n := x1 - a) (by omega) (by omega)
        have := npnp_mul (m := b - d) (n := x2 - a) (by omega) (by omega)
        omega
      · have := nn_mul (m := b - d) (n := x1 - a) (by omega) (by omega)
        have := nn_mul (m := b - d) (n := x2 - a) (by omega) (by omega)
        omega)
    unfold anyS
    rw [s1, s2, s3, s4, hb]
    rfl
  · have hb : bmB (min x1 x2, min y2 y2, max x1 x2, max y2 y2) (a, b, c, d) = true := by
      unfold bmB
      rw [decide_eq_true_iff]
      simp only
      omega
    have hx : ∀ x, a ≤ x → x ≤ c → ∀ p q : Int, ((p ≤ y2 ∧ y2 ≤ q) ∨ (q ≤ y2 ∧ y2 ≤ p)) → p ≠ q → ovl x1 y2 x2 y2 x p x q = false ∧ meets x1 y2 x2 y2 x p x q = true := by
      intro x e1 e2 p q e3 e4
      have n : x2 - x1 ≠ 0 := by omega
      have t1 : side x1 y2 x2 y2 x p = (x2 - x1) * (p - y2) := by unfold side; grind
      have t2 : side x1 y2 x2 y2 x q = (x2 - x1) * (q - y2) := by unfold side; grind
      have t3 : side x p x q x1 y2 = -((q - p) * (x1 - x)) := by unfold side; grind
      have t4 : side x p x q x2 y2 = -((q - p) * (x2 - x)) := by unfold side; grind
      have z : ∀ m n : Int, m ≠ 0 → n ≠ 0 → m * n ≠ 0 := fun m n h h' => Int.mul_ne_zero h h'
      have z3 := z (q - p) (x1 - x) (by omega) (by omega)
      refine ⟨?_, ?_⟩
      · unfold ovl
        rw [t1, t2, t3, t4]
        rw [Bool.or_eq_false_iff, Bool.and_eq_false_iff, Bool.and_eq_false_iff]
        refine ⟨?_, .inl (decide_eq_false (by omega))⟩
        rcases Classical.em (p = y2) with h | h
        · exact .inr (decide_eq_false (z _ _ n (by omega)))
        · exact .inl (decide_eq_false (z _ _ n (by omega)))
      · unfold meets apartB
        rw [decide_eq_true_iff, t1, t2, t3, t4]
        have m1 := @Int.le_total
        rcases Int.lt_or_le x1 x2 with g | g
        · refine ⟨?_, ?_⟩
          · rcases e3 with e3 | e3
            · exact .inl ⟨Int.mul_nonpos_of_nonneg_of_nonpos (by omega) (by omega), Int.mul_nonneg (by omega) (by omega)⟩
            · exact .inr ⟨Int.mul_nonpos_of_nonneg_of_nonpos (by omega) (by omega), Int.mul_nonneg (by omega) (by omega)⟩
          · rcases Int.lt_or_le p q with f | f
            · have := nonpos_mul (m := q - p) (n := x1 - x) (by omega) (by omega)
              have := nonneg_mul (m := q - p) (n := x2 - x) (by omega) (by omega)
              omega
            · have := npnp_mul (m := q - p) (n := x1 - x) (by omega) (by omega)
              have := nn_mul (m := q - p) (n := x2 - x) (by omega) (by omega)
              omega
        · refine ⟨?_, ?_⟩
          · rcases e3 with e3 | e3
            · exact .inr ⟨Int.mul_nonpos_of_nonpos_of_nonneg (by omega) (by omega), Int.mul_nonneg_of_nonpos_of_nonpos (by omega) (by omega)⟩
            · exact .inl ⟨Int.mul_nonpos_of_nonpos_of_nonneg (by omega) (by omega), Int.mul_nonneg_of_nonpos_of_nonpos (by omega) (by omega)⟩
          · rcases Int.lt_or_le p q with f | f
            · have := nonneg_mul (m := q - p) (n := x1 - x) (by omega) (by omega)
              have := nonpos_mul (m := q - p) (n := x2 - x) (by omega) (by omega)
              omega
            · have := nn_mul (m := q - p) (n := x1 - x) (by omega) (by omega)
              have := npnp_mul (m := q - p) (n := x2 - x) (by omega) (by omega)
              omega
    obtain ⟨o1, m1⟩ := hx c (by omega) (by omega) b d (.inl hy) (by omega)
    obtain ⟨o3, m3⟩ := hx a (by omega) (by omega) d b (.inr hy) (by omega)
    have f1 : sxp (x1, y2) (x2, y2) (c, b) (c, d) = true := (sx_meets o1).trans m1
    have f3 : sxp (x1, y2) (x2, y2) (a, d) (a, b) = true := (sx_meets o3).trans m3
    have g1 : gmt (c, b) (c, d) (x1, y2) (x2, y2) = true := (gmt_sym _ _ _ _).trans ((gmt_meets o1).trans m1)
    unfold anyS
    rw [f1, f3, hb, g1, cnt_two (f1 := true) (f3 := true) (by cases sxp (x1, y2) (x2, y2) (a, b) (c, b) <;> cases sxp (x1, y2) (x2, y2) (c, d) (a, d) <;> rfl)]
    simp
theorem risP_ver (h1 : a < c) (h2 : b < d) {A B : Int × Int} (oA : inB (a, b, c, d) A = false) (oB : inB (a, b, c, d) B = false) {x : Int} (hA : A.1 = x) (hB : B.1 = x) (hx : a ≤ x ∧ x ≤ c) : risP (rl a b c d) A B = anyS a b c d A B := by
  obtain ⟨i1, i2, i3, i4⟩ := crn_in h1 h2
  obtain ⟨x0, y1⟩ := A
  obtain ⟨x2, y2⟩ := B
  simp only at hA hB
  subst hA
  obtain rfl : x2 = x0 := hB
  have oA' : y1 < b ∨ d < y1 := by have h := of_decide_eq_false oA; simp only at h; omega
  have oB' : y2 < b ∨ d < y2 := by have h := of_decide_eq_false oB; simp only at h; omega
  rw [risP_off h1 h2 oA oB]
  by_cases hs : (y1 < b ∧ y2 < b) ∨ (d < y1 ∧ d < y2)
  · have hb : bmB (min x2 x2, min y1 y2, max x2 x2, max y1 y2) (a, b, c, d) = false := by
      unfold bmB
      rw [decide_eq_false_iff_not]
      simp only
      omega
    have hne : ∀ p, inB (a, b, c, d) p = true → gon (x2, y1) (x2, y2) p = false := fun p hp => by
      rw [Bool.eq_false_iff]
      intro hh
      have h := gon_in hh
      have hp := of_decide_eq_true hp
      simp only at h hp
      omega
    have k : ∀ m n : Int, m = n → (0 ≤ m ∧ 0 ≤ n) ∨ (m ≤ 0 ∧ n ≤ 0) := fun m n h => by omega
    have s2 : gmt (c, b) (c, d) (x2, y1) (x2, y2) = false := gmt_same (out_gon oA i2 i3) (out_gon oB i2 i3) (hne _ i2) (hne _ i3) ((k _ _ (by unfold gsd; simp)).elim .inl fun h => .inr (.inl h))
    have s4 : gmt (a, d) (a, b) (x2, y1) (x2, y2) = false := gmt_same (out_gon oA i4 i1) (out_gon oB i4 i1) (hne _ i4) (hne _ i1) ((k _ _ (by unfold gsd; simp)).elim .inl fun h => .inr (.inl h))
    have s1 : gmt (a, b) (c, b) (x2, y1) (x2, y2) = false := gmt_same (out_gon oA i1 i2) (out_gon oB i1 i2) (hne _ i1) (hne _ i2) (by
      unfold gsd
      simp only [Int.sub_self, Int.zero_mul, Int.sub_zero]
      rcases hs with ⟨g1, g2⟩ | ⟨g1, g2⟩
      · have := neg_mul (m := c - a) (n := y1 - b) (by omega) (by omega)
        have := neg_mul (m := c - a) (n := y2 - b) (by omega) (by omega)
        omega
      · have := pos_mul (m := c - a) (n := y1 - b) (by omega) (by omega)
        have := pos_mul (m := c - a) (n := y2 - b) (by omega) (by omega)
        omega)
    have s3 : gmt (c, d) (a, d) (x2, y1) (x2, y2) = false := gmt_same (out_gon oA i3 i4) (out_gon oB i3 i4) (hne _ i3) (hne _ i4) (by
      unfold gsd
      simp only [Int.sub_self, Int.zero_mul, Int.sub_zero]
      rcases hs with ⟨g1, g2⟩ | ⟨g1, g2⟩
      · have := npnp_mul (m := a - c) (n := y1 - d) (by omega) (by omega)
        have := npnp_mul (m := a - c) (n := y2 - d) (by omega) (by omega)
        omega
      · have := nn_mul (m := a - c) (n := y1 - d) (by omega) (by omega)
        have := nn_mul (m := a - c) (n := y2 - d) (by omega) (by omega)
        omega)
    unfold anyS
    rw [s1, s2, s3, s4, hb]
    rfl
  · have hb : bmB (min x2 x2, min y1 y2, max x2 x2, max y1 y2) (a, b, c, d) = true := by
      unfold bmB
      rw [decide_eq_true_iff]
      simp only
      omega
    have hv : ∀ y, b ≤ y → y ≤ d → ∀ p q : Int, ((p ≤ x2 ∧ x2 ≤ q) ∨ (q ≤ x2 ∧ x2 ≤ p)) → p ≠ q → ovl x2 y1 x2 y2 p y q y = false ∧ meets x2 y1 x2 y2 p y q y = true := by
      intro y e1 e2 p q e3 e4
      have n : y2 - y1 ≠ 0 := by omega
      have t1 : side x2 y1 x2 y2 p y = -((y2 - y1) * (p - x2)) := by unfold side; grind
      have t2 : side x2 y1 x2 y2 q y = -((y2 - y1) * (q - x2)) := by unfold side; grind
      have t3 : side p y q y x2 y1 = (q - p) * (y1 - y) := by unfold side; grind
      have t4 : side p y q y x2 y2 = (q - p) * (y2 - y) := by unfold side; grind
      have z : ∀ m n : Int, m ≠ 0 → n ≠ 0 → m * n ≠ 0 := fun m n h h' => Int.mul_ne_zero h h'
      have z3 := z (q - p) (y1 - y) (by omega) (by omega)
      refine ⟨?_, ?_⟩
      · unfold ovl
        rw [t1, t2, t3, t4]
        rw [Bool.or_eq_false_iff, Bool.and_eq_false_iff, Bool.and_eq_false_iff]
        refine ⟨?_, .inl (decide_eq_false (by omega))⟩
        rcases Classical.em (p = x2) with h | h
        · have := z (y2 - y1) (q - x2) n (by omega)
          exact .inr (decide_eq_false (by omega))
        · have := z (y2 - y1) (p - x2) n (by omega)
          exact .inl (decide_eq_false (by omega))
      · unfold meets apartB
        rw [decide_eq_true_iff, t1, t2, t3, t4]
        rcases Int.lt_or_le y1 y2 with g | g
        · refine ⟨?_, ?_⟩
          · rcases e3 with e3 | e3
            · have := nonpos_mul (m := y2 - y1) (n := p - x2) (by omega) (by omega)
              have := nonneg_mul (m := y2 - y1) (n := q - x2) (by omega) (by omega)
              omega
            · have := nonneg_mul (m := y2 - y1) (n := p - x2) (by omega) (by omega)
              have := nonpos_mul (m := y2 - y1) (n := q - x2) (by omega) (by omega)
              omega
          · rcases Int.lt_or_le p q with f | f
            · have := nonpos_mul (m := q - p) (n := y1 - y) (by omega) (by omega)
              have := nonneg_mul (m := q - p) (n := y2 - y) (by omega) (by omega)
              omega
            · have := npnp_mul (m := q - p) (n := y1 - y) (by omega) (by omega)
              have := nn_mul (m := q - p) (n := y2 - y) (by omega) (by omega)
              omega
        · refine ⟨?_, ?_⟩
          · rcases e3 with e3 | e3
            · have := npnp_mul (m := y2 - y1) (n := p - x2) (by omega) (by omega)
              have := nn_mul (m := y2 - y1) (n := q - x2) (by omega) (by omega)
              omega
            · have := nn_mul (m := y2 - y1) (n := p - x2) (by omega) (by omega)
              have := npnp_mul (m := y2 - y1) (n := q - x2) (by omega) (by omega)
              omega
          · rcases Int.lt_or_le p q with f | f
            · have := nonneg_mul (m := q - p) (n := y1 - y) (by omega) (by omega)
              have := nonpos_mul (m := q - p) (n := y2 - y) (by omega) (by omega)
              omega
            · have := nn_mul (m := q - p) (n := y1 - y) (by omega) (by omega)
              have := npnp_mul (m := q - p) (n := y2 - y) (by omega) (by omega)
              omega
    obtain ⟨o1, m1⟩ := hv b (by omega) (by omega) a c (.inl hx) (by omega)
    obtain ⟨o3, m3⟩ := hv d (by omega) (by omega) c a (.inr hx) (by omega)
    have f1 : sxp (x2, y1) (x2, y2) (a, b) (c, b) = true := (sx_meets o1).trans m1
    have f3 : sxp (x2, y1) (x2, y2) (c, d) (a, d) = true := (sx_meets o3).trans m3
    have g1 : gmt (a, b) (c, b) (x2, y1) (x2, y2) = true := (gmt_sym _ _ _ _).trans ((gmt_meets o1).trans m1)
    unfold anyS
    rw [f1, f3, hb, g1, cnt_two (f0 := true) (f2 := true) (by cases sxp (x2, y1) (x2, y2) (c, b) (c, d) <;> cases sxp (x2, y1) (x2, y2) (a, d) (a, b) <;> rfl)]
    simp
/-- **a segment and a rectangle, by geometry** -/
theorem risP_geo (h1 : a < c) (h2 : b < d) (A B : Int × Int) : risP (rl a b c d) A B = (inB (a, b, c, d) A || inB (a, b, c, d) B || anyS a b c d A B) := by
  have nearP : ∀ P : Int × Int, (P = A ∨ P = B) → inB (a, b, c, d) P = true → bmB (min A.1 B.1, min A.2 B.2, max A.1 B.1, max A.2 B.2) (a, b, c, d) = true := by
    intro P hP h
    have h := of_decide_eq_true h
    unfold bmB
    rw [decide_eq_true_iff]
    simp only at h ⊢
    rcases hP with rfl | rfl <;> omega
  cases gA : inB (a, b, c, d) A with
  | true =>
    unfold risP
    rw [rect_has h1 h2, rect_has h1 h2, rl_box (Int.le_of_lt h1) (Int.le_of_lt h2), nearP A (.inl rfl) gA, gA]
    rfl
  | false =>
    cases gB : inB (a, b, c, d) B with
    | true =>
      unfold risP
      rw [rect_has h1 h2, rect_has h1 h2, rl_box (Int.le_of_lt h1) (Int.le_of_lt h2), nearP B (.inr rfl) gB, gA, gB]
      rfl
    | false =>
      simp only [Bool.false_or]
      have hdeg : A = B → risP (rl a b c d) A B = anyS a b c d A B := fun h => by rw [← h]; exact risP_dg h1 h2 gA
      -- a segment on the line of a side
      have hcol : ∀ p q : Int × Int, (p.2 = q.2 ∧ p.1 ≠ q.1 ∧ b ≤ p.2 ∧ p.2 ≤ d) ∨ (p.1 = q.1 ∧ p.2 ≠ q.2 ∧ a ≤ p.1 ∧ p.1 ≤ c) → ovl A.1 A.2 B.1 B.2 p.1 p.2 q.1 q.2 = true → risP (rl a b c d) A B = anyS a b c d A B := by
        intro p q hpq ho
        unfold ovl at ho
        rw [Bool.or_eq_true, Bool.and_eq_true, Bool.and_eq_true, decide_eq_true_iff, decide_eq_true_iff, decide_eq_true_iff, decide_eq_true_iff] at ho
        rcases hpq with ⟨e1, e2, e3⟩ | ⟨e1, e2, e3⟩
        · rcases ho with ⟨t1, t2⟩ | ⟨t1, t2⟩
          · have u1 : (B.2 - A.2) * (q.1 - p.1) = 0 := by unfold side at t1 t2; grind
            have u2 : B.2 - A.2 = 0 := by
              rcases Int.mul_eq_zero.1 u1 with h | h
              · exact h
              · omega
            have u3 : (B.1 - A.1) * (p.2 - A.2) = 0 := by unfold side at t1; grind
            rcases Int.mul_eq_zero.1 u3 with h | h
            · exact hdeg (Prod.ext (by omega) (by omega))
            · exact risP_hor h1 h2 gA gB (y := p.2) (by omega) (by omega) e3
          · have u1 : (q.1 - p.1) * (A.2 - p.2) = 0 := by unfold side at t1; grind
            have u2 : (q.1 - p.1) * (B.2 - p.2) = 0 := by unfold side at t2; grind
            have v1 := (Int.mul_eq_zero.1 u1).resolve_left (by omega)
            have v2 := (Int.mul_eq_zero.1 u2).resolve_left (by omega)
            exact risP_hor h1 h2 gA gB (y := p.2) (by omega) (by omega) e3
        · rcases ho with ⟨t1, t2⟩ | ⟨t1, t2⟩
          · have u1 : (B.1 - A.1) * (q.2 - p.2) = 0 := by unfold side at t1 t2; grind
            have u2 : B.1 - A.1 = 0 := by
              rcases Int.mul_eq_zero.1 u1 with h | h
              · exact h
              · omega
            have u3 : (B.2 - A.2) * (p.1 - A.1) = 0 := by unfold side at t1; grind
            rcases Int.mul_eq_zero.1 u3 with h | h
            · exact hdeg (Prod.ext (by omega) (by omega))
            · exact risP_ver h1 h2 gA gB (x := p.1) (by omega) (by omega) e3
          · have u1 : (q.2 - p.2) * (A.1 - p.1) = 0 := by unfold side at t1; grind
            have u2 : (q.2 - p.2) * (B.1 - p.1) = 0 := by unfold side at t2; grind
            have v1 := (Int.mul_eq_zero.1 u1).resolve_left (by omega)
            have v2 := (Int.mul_eq_zero.1 u2).resolve_left (by omega)
            exact risP_ver h1 h2 gA gB (x := p.1) (by omega) (by omega) e3
      cases o0 : ovl A.1 A.2 B.1 B.2 a b c b with
      | true => exact hcol (a, b) (c, b) (.inl ⟨rfl, by simp only; omega, by simp only; omega⟩) o0
      | false =>
        cases o1 : ovl A.1 A.2 B.1 B.2 c b c d with
        | true => exact hcol (c, b) (c, d) (.inr ⟨rfl, by simp only; omega, by simp only; omega⟩) o1
        | false =>
          cases o2 : ovl A.1 A.2 B.1 B.2 c d a d with
          | true => exact hcol (c, d) (a, d) (.inl ⟨rfl, by simp only; omega, by simp only; omega⟩) o2
          | false =>
            cases o3 : ovl A.1 A.2 B.1 B.2 a d a b with
            | true => exact hcol (a, d) (a, b) (.inr ⟨rfl, by simp only; omega, by simp only; omega⟩) o3
            | false =>
              rw [risP_rl h1 h2 A B o0 o1 o2 o3, gA, gB]
              unfold anyS
              have e0 : gmt (a, b) (c, b) A B = _ := (gmt_sym _ _ _ _).trans (gmt_meets o0)
              have e1 : gmt (c, b) (c, d) A B = _ := (gmt_sym _ _ _ _).trans (gmt_meets o1)
              have e2 : gmt (c, d) (a, d) A B = _ := (gmt_sym _ _ _ _).trans (gmt_meets o2)
              have e3 : gmt (a, d) (a, b) A B = _ := (gmt_sym _ _ _ _).trans (gmt_meets o3)
              rw [e0, e1, e2, e3]
              rfl
theorem crn_rl : cls (crn a b c d) = rl a b c d := rfl
theorem crn_has (h1 : a < c) (h2 : b < d) (p : Int × Int) : ringHas (crn a b c d) p true = inB (a, b, c, d) p := by
  rw [(cls_like (l := crn a b c d) (by simp [crn]) (by simp [crn, at']; omega)).has, crn_rl, rect_has h1 h2]
/-- a ring without its rectangle -/
theorem has_nobox {l : List (Int × Int)} (h3 : 3 ≤ l.length) (p : Int × Int) : ringHas l p true = (aon l p (nSeg true l) || xrs l p (nSeg true l)) := by
  obtain ⟨e1, e2⟩ := ring_all (p := p) h3
  rw [ringHas_al true h3, e1, e2]
  cases aon l p l.length <;> cases xrs l p l.length <;> rfl
/-- spec.SceneLine, of a polygon without holes -/
def scL (l m : List (Int × Int)) : Bool := anyN (fun i => ringHas l (at' m i) true || (decide (0 < i) && anyN (fun k => gmt (at' l k) (nxp l k) (at' m (i - 1)) (at' m i)) l.length)) m.length
/-- **a rectangle and a line meet just if they have a point in common** -/
theorem ril_scL (h1 : a < c) (h2 : b < d) (m : List (Int × Int)) (hm : 2 ≤ m.length) : rilV (rl a b c d) m = scL (crn a b c d) m := by
  have e4 : ∀ A B, anyN (fun k => gmt (at' (crn a b c d) k) (nxp (crn a b c d) k) A B) 4 = anyS a b c d A B := fun A B => rfl
  have hnx : ∀ i, i + 1 < m.length → nxp m i = at' m (i + 1) := fun i hi => by unfold nxp; rw [if_neg (by omega)]
  have hseg : ∀ i, i + 1 < m.length → risV (rl a b c d) m i = (inB (a, b, c, d) (at' m i) || inB (a, b, c, d) (at' m (i + 1)) || anyS a b c d (at' m i) (at' m (i + 1))) := by
    intro i hi
    rw [← hnx i hi]
    exact risP_geo h1 h2 (at' m i) (nxp m i)
  unfold rilV scL
  rw [anyN_congr (f := fun k => ringHas (rl a b c d) (at' m k) true) fun k _ => rect_has h1 h2 (at' m k), rl_box (Int.le_of_lt h1) (Int.le_of_lt h2)]
  rw [Bool.eq_iff_iff, Bool.and_eq_true, Bool.or_eq_true, anyN_iff, anyN_iff, anyN_iff]
  show _ ↔ ∃ k, k < m.length ∧ (ringHas (crn a b c d) (at' m k) true || (decide (0 < k) && anyN (fun j => gmt (at' (crn a b c d) j) (nxp (crn a b c d) j) (at' m (k - 1)) (at' m k)) 4)) = true
  simp only [e4, crn_has h1 h2]
  constructor
  · rintro ⟨-, ⟨k, hk, e⟩ | ⟨i, hi, e⟩⟩
    · exact ⟨k, hk, by rw [e]; rfl⟩
    · rw [hseg i (by omega), Bool.or_eq_true, Bool.or_eq_true] at e
      rcases e with (e | e) | e
      · exact ⟨i, by omega, by rw [e]; rfl⟩
      · exact ⟨i + 1, by omega, by rw [e]; rfl⟩
      · exact ⟨i + 1, by omega, by rw [Nat.add_sub_cancel, e, decide_eq_true (by omega), Bool.and_self, Bool.or_true]⟩
  · rintro ⟨j, hj, e⟩
    have hbox := (box_spec m (by omega)).1
    have ebx : ppB false m = box m := by unfold ppB tooS; rw [if_neg (by simp; try omega)]
    rw [Bool.or_eq_true] at e
    rcases e with e | e
    · refine ⟨?_, .inl ⟨j, hj, e⟩⟩
      have e := of_decide_eq_true e
      have hb := hbox (at' m j) (List.mem_of_getElem? (at_get hj))
      rw [ebx]
      unfold bmB
      rw [decide_eq_true_iff]
      simp only at e ⊢
      omega
    · rw [Bool.and_eq_true, decide_eq_true_iff] at e
      obtain ⟨i, rfl⟩ : ∃ i, j = i + 1 := ⟨j - 1, by omega⟩
      rw [Nat.add_sub_cancel] at e
      have er : risV (rl a b c d) m i = true := by rw [hseg i hj, e.2, Bool.or_true]
      refine ⟨?_, .inr ⟨i, by omega, er⟩⟩
      have er' : risP (rl a b c d) (at' m i) (nxp m i) = true := er
      unfold risP at er'
      rw [Bool.and_eq_true, rl_box (Int.le_of_lt h1) (Int.le_of_lt h2)] at er'
      have e2 := of_decide_eq_true er'.1
      have hb := hbox (at' m i) (List.mem_of_getElem? (at_get (by omega)))
      have hb2 := hbox (nxp m i) (by rw [hnx i hj]; exact List.mem_of_getElem? (at_get hj))
      rw [ebx]
      unfold bmB
      rw [decide_eq_true_iff]
      simp only at e2 ⊢
      omega
end
end Go.Proofs.YtbeoijpdacpaaaaGreat
set_option linter.unusedSimpArgs false
set_option linter.unusedVariables false
/-! laws.sceneAwake is true. -/
namespace PF
open Go Go.RowKit JR
theorem SlP_row {w : World} {b : Nat} {l : List (Int × Int)} {T : TypeId} (h : w.heap[b]? = some (.cells (cellsP l).toArray T (0, 0))) (c : Nat) : SlP w (.slice (some ⟨b, 0, none⟩) l.length c) l := by
  refine ⟨_, c, rfl, fun k x hx => ?_⟩
  obtain ⟨h1, h2⟩ := cellsP_get l k x hx
  have z0 := cellAt h (k * 2)
  have z1 := cellAt h (k * 2 + 1)
  simp only [List.getElem?_toArray] at z0 z1
  exact ⟨b, 0, rfl, by rw [Nat.zero_add, z0, h1], by rw [Nat.zero_add, z1, h2]⟩
theorem SlH_nil (w : World) (c : Nat) (A : Option Addr) : SlH w (.slice A 0 c) [] := ⟨A, c, rfl, fun k x hx => by simp at hx⟩
end PF
namespace Go.Proofs.YtbeoijpdacpaaaaGreat
open Go.RowKit PF JR
set_option maxRecDepth 100000 in
theorem awk_c (w : World) : Calls Tryz.prog 22 #[] w fun e w' => e = .returned (.bool true) ∧ Below w.heap.size w w' := by
  have st0 := ((Blk.nil w).push rfl (cellsP [(0, 0), (2, 0), (2, 2), (0, 2)]).toArray 65).push (b := w.heap.size + 1) (by simp) (cellsP [(-1, 1), (3, 1)]).toArray 65
  have h1 := SlP_row (l := [(0, 0), (2, 0), (2, 2), (0, 2)]) (st0.known 1 _ rfl) 4
  have h2 := SlP_row (l := [(-1, 1), (3, 1)]) (st0.known 0 _ rfl) 2
  have ok1 : ShOk 3 [(0, 0), (2, 0), (2, 2), (0, 2)] [] := ⟨by simp [Bn3], by simp, by simp, .inr (.inr (.inr ⟨rfl, by simp, by simp⟩))⟩
  have ok2 : ShOk 2 [(-1, 1), (3, 1)] [] := ⟨by simp [Bn3], by simp, by simp, .inr (.inr (.inl ⟨rfl, by simp, by simp⟩))⟩
  have hA := ask_sc (X := 0) (by omega) 3 _ _ ok1 2 _ _ (.inr (.inr (.inr ⟨rfl, .inr ⟨rfl, by decide⟩⟩))) ok2 _ (.slice none 0 0) _ (.slice none 0 0) _ h1 (SlH_nil _ 0 none) h2 (SlH_nil _ 0 none)
  have e1 : hdS 3 [(0, 0), (2, 0), (2, 2), (0, 2)] [] 2 [(-1, 1), (3, 1)] [] = false := by decide
  have e2 : mtV 3 [(0, 0), (2, 0), (2, 2), (0, 2)] [] 2 [(-1, 1), (3, 1)] [] = true := by decide
  rw [e1, e2] at hA
  simp only [cellsP, List.flatMap_cons, List.flatMap_nil, List.cons_append, List.nil_append] at st0 hA
  go_enter Tryz.func22, Tryz.ntmps22
  go_wp2_with (go_at_call 21; refine JR.StopY.out ?_)
  refine ⟨?_⟩
  refine hA.mono ?_
  rintro e w1 ⟨rfl, hb⟩
  have st1 := st0.ext hb
  go_wp2
  go_ret
  exact ⟨rfl, st1.hb⟩
theorem rsd_nn {l : List (Int × Int)} {p : Int × Int} : decide (0 ≤ rsd l p) = (aon l p (nSeg true l) || xrs l p (nSeg true l)) := by
  unfold rsd
  cases aon l p (nSeg true l) <;> cases xrs l p (nSeg true l) <;> decide
theorem phs_has {l : List (Int × Int)} (h3 : 3 ≤ l.length) (p : Int × Int) : phs l [] p = ringHas l p true := by
  unfold phs
  rw [rsd_nn, has_nobox h3]
  simp [anyN]
theorem scG_L {l m : List (Int × Int)} (h3 : 3 ≤ l.length) : scG l [] m = scL l m := by
  unfold scG scL
  congr 1
  funext i
  unfold scGi smB
  rw [phs_has h3]
  simp [anyN]
theorem okS_b {m : List (Int × Int)} (h : m.all okS = true) : (∀ p ∈ m, Bs p) ∧ ∀ p ∈ m, Bn3 p := by
  rw [List.all_eq_true] at h
  refine ⟨fun p hp => ?_, fun p hp => ?_⟩ <;> have := of_decide_eq_true (h p hp)
  · unfold Bs; omega
  · unfold Bn3; omega
theorem isc_le {l : List (Int × Int)} {n : Int} (h : iscB l n = true) : (l.length : Int) ≤ n ∧ l.all okS = true := by
  unfold iscB at h
  rw [Bool.and_eq_true, decide_eq_true_iff] at h
  exact h
end Go.Proofs.YtbeoijpdacpaaaaGreat
set_option linter.unusedSimpArgs false
set_option linter.unusedVariables false
/-! spec.GeoRect, GeoRectIn. -/
namespace Go.Proofs.YtbeoijpdacpaaaaGreat
open Go Go.RowKit PF JR
/-- a box and one point more -/
def bxp (b : Int × Int × Int × Int) (p : Int × Int) : Int × Int × Int × Int := (if p.1 < b.1 then p.1 else b.1, if p.2 < b.2.1 then p.2 else b.2.1, if b.2.2.1 < p.1 then p.1 else b.2.2.1, if b.2.2.2 < p.2 then p.2 else b.2.2.2)
def bxn (l : List (Int × Int)) : Nat → Int × Int × Int × Int
  | 0 => ((at' l 0).1, (at' l 0).2, (at' l 0).1, (at' l 0).2)
  | n + 1 => bxp (bxn l n) (at' l n)
set_option maxRecDepth 100000 in
set_option maxHeartbeats 4000000 in
theorem grc_c (l : List (Int × Int)) (h31 : l.length ≤ 900000000) (h0 : 0 < l.length) (v : Value) (w : World) (hv : SlP w v l) :
    Calls Tryz.prog 27 #[v] w fun e w' => e = .returned (.agg #[.int .i64 (bxn l l.length).1, .int .i64 (bxn l l.length).2.1, .int .i64 (bxn l l.length).2.2.1, .int .i64 (bxn l l.length).2.2.2]) ∧ Below w.heap.size w w' := by
  obtain ⟨A, c, rfl, hk⟩ := hv
  have hat := fun (i : Nat) (hi : i < l.length) => SlP.two (i := i) (j := 0) hk hi h0
  clear hk
  have hb0 : bxn l 0 = ((at' l 0).1, (at' l 0).2, (at' l 0).1, (at' l 0).2) := rfl
  have hbs : ∀ n, bxn l (n + 1) = bxp (bxn l n) (at' l n) := fun n => rfl
  generalize l.length = n at *
  have st0 := (Blk.nil w).push rfl #[.int .i64 0, .int .i64 0, .int .i64 0, .int .i64 0] 42
  obtain ⟨bb, off, rfl, g1, g2, -, -⟩ := hat 0 h0
  simp only [Nat.zero_mul, Nat.add_zero] at g1 g2
  have g1 := (st0.hb.cell (World.block_lt_of_cell? w _ g1)).trans g1
  have g2 := (st0.hb.cell (World.block_lt_of_cell? w _ g2)).trans g2
  have hn0 : ¬ n = 0 := by omega
  have hn1 : (0 : Int) < (n : Int) := by omega
  go_enter Tryz.func27, Tryz.ntmps27
  go_upto_region 3 with (fail)
  have hcel : ∀ u, Keep [] (w.alloc (.cells #[.int .i64 0, .int .i64 0, .int .i64 0, .int .i64 0] 42)) u → u.cell? ⟨bb, off, none⟩ = some (.int .i64 (at' l 0).1) ∧ u.cell? ⟨bb, off + 1, none⟩ = some (.int .i64 (at' l 0).2) :=
    fun u hG => ⟨(hG.cell (World.block_lt_of_cell? _ _ g1) (by simp)).trans g1, (hG.cell (World.block_lt_of_cell? _ _ g2) (by simp)).trans g2⟩
  refine wp_region_K [] [.val (.slice (some ⟨bb, off, none⟩) n c),
      .val (.pointer (some ⟨bb, off, none⟩)),
      .val (.agg #[.int .i64 (at' l 0).1, .int .i64 (at' l 0).2]),
      .val (.slice (some ⟨bb, off, none⟩) n c),
      .val (.pointer (some ⟨bb, off, none⟩)),
      .val (.agg #[.int .i64 (at' l 0).1, .int .i64 (at' l 0).2]),
      .val (.agg #[.int .i64 (at' l 0).1, .int .i64 (at' l 0).2, .int .i64 (at' l 0).1, .int .i64 (at' l 0).2]),
      .made 42 4,
      .filled 3 #[.int .i64 (at' l 0).1, .int .i64 (at' l 0).2, .int .i64 (at' l 0).1, .int .i64 (at' l 0).2] 42]
    [[.ini 0], [.frm 0 10], [.frm 1 11], [.ini 0], [.frm 3 13], [.frm 4 14], [.frm 2 12, .frm 5 15], [], [.frm 7 3, .frm 6 16]]
    mixed (by kernel_rfl) (by kernel_rfl) (allPre_of ⟨trivial, trivial, trivial, trivial, trivial, trivial, trivial, trivial, trivial, trivial⟩)
    ⟨OpOk.quiet rfl ?_,
      OpOk.quiet rfl ?_,
      OpOk.quiet rfl ?_,
      OpOk.quiet rfl ?_,
      OpOk.quiet rfl ?_,
      OpOk.quiet rfl ?_,
      OpOk.quiet rfl ?_,
      OpOk.made (cs := #[.int .i64 0, .int .i64 0, .int .i64 0, .int .i64 0]) rfl rfl ?_,
      OpOk.fillRow (k := 7) rfl rfl (by kernel_rfl) rfl (oldLt_of ⟨(fun _ h => (nomatch h)), (fun _ h => (nomatch h)), (fun _ h => (nomatch h)), (fun _ h => (nomatch h)), (fun _ h => (nomatch h)), (fun _ h => (nomatch h)), (fun _ h => (nomatch h)), (fun _ h => (nomatch h)), (fun _ h => (nomatch h)), trivial⟩) (by kernel_rfl) (by simp [Value.oneCell']) (fun a w hf => ⟨hf.1, hf.2.1.elim fun _ h => h.elim fun _ h => h⟩) (fun _ _ _ h hb => Keep.setRow h (.inl hb)), trivial⟩ ?_
  · intro a u _ hf
    simp [facts, Need.fact, Act.eval] at hf
    go_simp
  · intro a u _ hf
    simp [facts, Need.fact, Ent.val, Act.eval] at hf
    go_simp
  · intro a u hG hf
    simp [facts, Need.fact, Ent.val, Act.eval] at hf
    have hc := hcel u hG
    go_simp
  · intro a u _ hf
    simp [facts, Need.fact, Act.eval] at hf
    go_simp
  · intro a u _ hf
    simp [facts, Need.fact, Ent.val, Act.eval] at hf
    go_simp
  · intro a u hG hf
    simp [facts, Need.fact, Ent.val, Act.eval] at hf
    have hc := hcel u hG
    go_simp
  · intro a u _ hf
    simp [facts, Need.fact, Ent.val, Act.eval] at hf
    go_simp
  · intro a u _ _
    go_simp
  intro u lw hw w1 hK hE hI hD
  simp [allE, allPut, Act.put, Act.eval, Ent.filledP, Ent.made, Ent.val] at hE
  obtain ⟨u0, u1, u2, u3, u4, u5, u6, ⟨b7, u7, l7, h7, -⟩, ⟨c8, v8, g8⟩⟩ := hE
  obtain rfl : b7 = c8 := by rw [u7] at v8; simpa using v8
  simp only [allPut, Act.put, u0, u1, u2, u3, u4, u5, u6, u7]
  clear u0 u1 u2 u3 u4 u5 u6 u7 v8
  have i7 := hI 7 (by show 7 < 9; omega)
  have hb7le : w.heap.size + 1 ≤ b7 := by have := i7.2; simp at this; omega
  have st1 := (st0.keep0 hK).add g8
  clear hcel hK hI hD g8 g1 g2 st0 i7 l7 h7
  go_wp2
  go_loopw [19] (fun q wr => ∃ k : Nat, k ≤ n ∧ q = .int .i64 k ∧ Blk w wr [(b7, #[.int .i64 (bxn l k).1, .int .i64 (bxn l k).2.1, .int .i64 (bxn l k).2.2.1, .int .i64 (bxn l k).2.2.2], 42), (w.heap.size, #[.int .i64 0, .int .i64 0, .int .i64 0, .int .i64 0], 42)]) (fun q _ => n - (intOf q).toNat)
  case atStart => exact ⟨0, Nat.zero_le _, rfl, st1⟩
  case round =>
    clear st1
    obtain ⟨k, hkl, rfl, hst⟩ := hrel
    rcases Nat.lt_or_ge k n with hlt | hge
    · obtain ⟨bb2, off2, hbo, g1, g2, -, -⟩ := hat k hlt
      cases hbo
      have g1 := (hst.hb.cell (World.block_lt_of_cell? w _ g1)).trans g1
      have g2 := (hst.hb.cell (World.block_lt_of_cell? w _ g2)).trans g2
      have hlt' : (k : Int) < (n : Int) := by omega
      have hbk := hbs k
      generalize at' l k = p at *
      generalize bxn l k = b at *
      obtain ⟨b0, b1, b2, b3⟩ := b
      simp only at hst
      unfold bxp at hbk
      simp only at hbk
      have hbk2 : JR.StopM (bxn l (k + 1) = (if p.1 < b0 then p.1 else b0, if p.2 < b1 then p.2 else b1, if b2 < p.1 then p.1 else b2, if b3 < p.2 then p.2 else b3)) := ⟨hbk⟩
      clear hbk hbs hat hb0
      have st2 := hst.push (b := wr.heap.size) rfl #[.int .i64 p.1, .int .i64 p.2] 27
      go_upto_region 7 with (fail)
      have hne : wr.heap.size ≠ b7 := by have := hst.lt 0 rfl; omega
      have hne2 : w.heap.size ≠ b7 := by omega
      have hle : w.heap.size ≤ b7 := by omega
      clear hst g1 g2
      generalize wr.alloc _ = w2 at *
      generalize wr.heap.size = pb at *
      have y0 := st2.cell 0 rfl 0
      have y1 := st2.cell 0 rfl 1
      simp only [List.getElem?_toArray, List.getElem?_cons_zero, List.getElem?_cons_succ] at y0 y1
      have hrow0 := st2.known 1 _ rfl
      refine wp_region_J (G := fun z => Keep [b7] w2 z ∧ ∃ cs, z.heap[b7]? = some (.cells cs 42 (0, 0)) ∧ cs.size = 4 ∧ cs[2]? = some (.int .i64 b2) ∧ cs[3]? = some (.int .i64 b3)) (B0 := w2.heap.size) (plan := [.val (.pointer (some ⟨b7, 0, none⟩)), .val (.pointer (some ⟨b7, 0, none⟩)), .val (.int .i64 b0), .val (.pointer (some ⟨pb, 0, none⟩)), .val (.int .i64 p.1), .val (.int .i64 (if p.1 < b0 then p.1 else b0)), .val (.pointer (some ⟨b7, 0, none⟩)), .val (.pointer (some ⟨b7, 1, none⟩)), .val (.int .i64 b1), .val (.pointer (some ⟨pb, 1, none⟩)), .val (.int .i64 p.2), .val (.int .i64 (if p.2 < b1 then p.2 else b1)), .val (.pointer (some ⟨b7, 0, none⟩)), .val (.pointer (some ⟨b7, 0, none⟩)), .cel b7 0 (.int .i64 b0) 28 4 42, .val (.pointer (some ⟨b7, 0, none⟩)), .val (.pointer (some ⟨b7, 1, none⟩)), .cel b7 1 (.int .i64 b1) 34 4 42])
        (ns := [[.ini 3], [.frm 0 23], [.frm 1 24, .til 14], [.ini 5], [.frm 3 26], [.frm 2 25, .frm 4 27], [.ini 3], [.frm 6 29], [.frm 7 30, .til 17], [.ini 5], [.frm 9 32], [.frm 8 31, .frm 10 33], [.ini 3], [.frm 12 35], [.frm 13 36, .frm 5 28, .til 14], [.ini 3], [.frm 15 37], [.frm 16 38, .frm 11 34, .til 17]]) mixed (by kernel_rfl) (by kernel_rfl) (allPre_of ⟨trivial, trivial, trivial, trivial, trivial, trivial, trivial, trivial, trivial, trivial, trivial, trivial, trivial, trivial, ⟨_, hrow0, rfl, rfl⟩, trivial, trivial, ⟨_, hrow0, rfl, rfl⟩, trivial⟩)
        ⟨Keep.drew (Keep.refl _ _), _, hrow0, rfl, rfl, rfl⟩ (fun _ _ e h => ⟨Keep.ext e h.1, by obtain ⟨-, c', e1, e2, e3, e4⟩ := h; exact ⟨c', (e.block _ (lt_of_some e1)).trans e1, e2, e3, e4⟩⟩) (fun _ h => h.1.size)
        ⟨OpOk.quiet rfl ?_, OpOk.quiet rfl ?_, OpOk.quiet rfl ?_, OpOk.quiet rfl ?_, OpOk.quiet rfl ?_, OpOk.quiet rfl ?_, OpOk.quiet rfl ?_, OpOk.quiet rfl ?_, OpOk.quiet rfl ?_, OpOk.quiet rfl ?_, OpOk.quiet rfl ?_, OpOk.quiet rfl ?_, OpOk.quiet rfl ?_, OpOk.quiet rfl ?_, OpOk.cel rfl rfl ⟨.inr (.inl ⟨rfl, fun _ _ h => h⟩), .inr (.inl ⟨rfl, fun _ _ h => h⟩), .inr (.inl ⟨rfl, fun _ _ h => h⟩), .inr (.inl ⟨rfl, fun _ _ h => h⟩), .inr (.inl ⟨rfl, fun _ _ h => h⟩), .inr (.inl ⟨rfl, fun _ _ h => h⟩), .inr (.inl ⟨rfl, fun _ _ h => h⟩), .inr (.inl ⟨rfl, fun _ _ h => h⟩), .inr (.inl ⟨rfl, fun _ _ h => h⟩), .inr (.inl ⟨rfl, fun _ _ h => h⟩), .inr (.inl ⟨rfl, fun _ _ h => h⟩), .inr (.inl ⟨rfl, fun _ _ h => h⟩), .inr (.inl ⟨rfl, fun _ _ h => h⟩), .inr (.inl ⟨rfl, fun _ _ h => h⟩), .inl rfl, .inr (.inl ⟨rfl, fun _ _ h => h⟩), .inr (.inl ⟨rfl, fun _ _ h => h⟩), .inr (.inr ⟨1, _, _, by decide, rfl⟩), trivial⟩ (by kernel_rfl) ?_ (fun z cs v hz h => ⟨Keep.setRow hz.1 (.inr (by simp)), _, setRow_same h, by obtain ⟨-, c', e1, e2, -⟩ := hz; rw [h] at e1; cases e1; simpa using e2, by obtain ⟨-, c', e1, -, e3, -⟩ := hz; rw [h] at e1; cases e1; rw [Array.getElem?_setIfInBounds_ne (by decide)]; exact e3, by obtain ⟨-, c', e1, -, -, e3⟩ := hz; rw [h] at e1; cases e1; rw [Array.getElem?_setIfInBounds_ne (by decide)]; exact e3⟩), OpOk.quiet rfl ?_, OpOk.quiet rfl ?_, OpOk.cel rfl rfl ⟨.inr (.inl ⟨rfl, fun _ _ h => h⟩), .inr (.inl ⟨rfl, fun _ _ h => h⟩), .inr (.inl ⟨rfl, fun _ _ h => h⟩), .inr (.inl ⟨rfl, fun _ _ h => h⟩), .inr (.inl ⟨rfl, fun _ _ h => h⟩), .inr (.inl ⟨rfl, fun _ _ h => h⟩), .inr (.inl ⟨rfl, fun _ _ h => h⟩), .inr (.inl ⟨rfl, fun _ _ h => h⟩), .inr (.inl ⟨rfl, fun _ _ h => h⟩), .inr (.inl ⟨rfl, fun _ _ h => h⟩), .inr (.inl ⟨rfl, fun _ _ h => h⟩), .inr (.inl ⟨rfl, fun _ _ h => h⟩), .inr (.inl ⟨rfl, fun _ _ h => h⟩), .inr (.inl ⟨rfl, fun _ _ h => h⟩), .inr (.inr ⟨0, _, _, by decide, rfl⟩), .inr (.inl ⟨rfl, fun _ _ h => h⟩), .inr (.inl ⟨rfl, fun _ _ h => h⟩), .inl rfl, trivial⟩ (by kernel_rfl) ?_ (fun z cs v hz h => ⟨Keep.setRow hz.1 (.inr (by simp)), _, setRow_same h, by obtain ⟨-, c', e1, e2, -⟩ := hz; rw [h] at e1; cases e1; simpa using e2, by obtain ⟨-, c', e1, -, e3, -⟩ := hz; rw [h] at e1; cases e1; rw [Array.getElem?_setIfInBounds_ne (by decide)]; exact e3, by obtain ⟨-, c', e1, -, -, e3⟩ := hz; rw [h] at e1; cases e1; rw [Array.getElem?_setIfInBounds_ne (by decide)]; exact e3⟩), trivial⟩ ?_
      · intro a u _ hf
        simp [facts, Need.fact, Ent.val, Act.eval] at hf
        go_simp
      · intro a u _ hf
        simp [facts, Need.fact, Ent.val, Act.eval] at hf
        go_simp
      · intro a u hG hf
        obtain ⟨⟨_, _, f1⟩, ⟨cs, g1, g2, g3⟩, -⟩ := hf
        have f1' : a.eval (.tmp 24) = .pointer (some ⟨b7, 0, none⟩) := f1
        have q1 := (cellAt g1 0).trans g3
        simp [Act.eval] at f1'
        clear f1
        go_simp
      · intro a u _ hf
        simp [facts, Need.fact, Ent.val, Act.eval] at hf
        go_simp
      · intro a u hG hf
        simp [facts, Need.fact, Ent.val, Act.eval] at hf
        have q1 := (hG.1.cell (p := ⟨pb, 0, none⟩) (st2.lt 0 rfl) (by simp; omega)).trans y0
        go_simp
      · intro a u _ hf
        simp [facts, Need.fact, Ent.val, Act.eval] at hf
        go_simp
      · intro a u _ hf
        simp [facts, Need.fact, Ent.val, Act.eval] at hf
        go_simp
      · intro a u _ hf
        simp [facts, Need.fact, Ent.val, Act.eval] at hf
        go_simp
      · intro a u hG hf
        obtain ⟨⟨_, _, f1⟩, ⟨cs, g1, g2, g3⟩, -⟩ := hf
        have f1' : a.eval (.tmp 30) = .pointer (some ⟨b7, 1, none⟩) := f1
        have q1 := (cellAt g1 1).trans g3
        simp [Act.eval] at f1'
        clear f1
        go_simp
      · intro a u _ hf
        simp [facts, Need.fact, Ent.val, Act.eval] at hf
        go_simp
      · intro a u hG hf
        simp [facts, Need.fact, Ent.val, Act.eval] at hf
        have q1 := (hG.1.cell (p := ⟨pb, 1, none⟩) (st2.lt 0 rfl) (by simp; omega)).trans y1
        go_simp
      · intro a u _ hf
        simp [facts, Need.fact, Ent.val, Act.eval] at hf
        go_simp
      · intro a u _ hf
        simp [facts, Need.fact, Ent.val, Act.eval] at hf
        go_simp
      · intro a u _ hf
        simp [facts, Need.fact, Ent.val, Act.eval] at hf
        go_simp
      · intro a u hG hf
        obtain ⟨⟨_, _, f1⟩, ⟨_, _, f2⟩, ⟨cs, g1, g2, g3⟩, -⟩ := hf
        have f1' : a.eval (.tmp 36) = .pointer (some ⟨b7, 0, none⟩) := f1
        have f2' : a.eval (.tmp 28) = .int .i64 (if p.1 < b0 then p.1 else b0) := f2
        exact ⟨f1', by rw [f2']; rfl, cs, g1, g2, by decide⟩
      · intro a u _ hf
        simp [facts, Need.fact, Ent.val, Act.eval] at hf
        go_simp
      · intro a u _ hf
        simp [facts, Need.fact, Ent.val, Act.eval] at hf
        go_simp
      · intro a u hG hf
        obtain ⟨⟨_, _, f1⟩, ⟨_, _, f2⟩, ⟨cs, g1, g2, g3⟩, -⟩ := hf
        have f1' : a.eval (.tmp 38) = .pointer (some ⟨b7, 1, none⟩) := f1
        have f2' : a.eval (.tmp 34) = .int .i64 (if p.2 < b1 then p.2 else b1) := f2
        exact ⟨f1', by rw [f2']; rfl, cs, g1, g2, by decide⟩
      intro uu lw hw wz hG hE hI hD
      obtain ⟨v0, v1, v2, v3, v4, v5, v6, v7, v8, v9, v10, v11, v12, v13, v14, v15, v16, v17, -⟩ := hE
      replace v0 : uu 0 = .pointer (some ⟨b7, 0, none⟩) := v0
      replace v1 : uu 1 = .pointer (some ⟨b7, 0, none⟩) := v1
      replace v2 : uu 2 = .int .i64 b0 := v2
      replace v3 : uu 3 = .pointer (some ⟨pb, 0, none⟩) := v3
      replace v4 : uu 4 = .int .i64 p.1 := v4
      replace v5 : uu 5 = .int .i64 (if p.1 < b0 then p.1 else b0) := v5
      replace v6 : uu 6 = .pointer (some ⟨b7, 0, none⟩) := v6
      replace v7 : uu 7 = .pointer (some ⟨b7, 1, none⟩) := v7
      replace v8 : uu 8 = .int .i64 b1 := v8
      replace v9 : uu 9 = .pointer (some ⟨pb, 1, none⟩) := v9
      replace v10 : uu 10 = .int .i64 p.2 := v10
      replace v11 : uu 11 = .int .i64 (if p.2 < b1 then p.2 else b1) := v11
      replace v12 : uu 12 = .pointer (some ⟨b7, 0, none⟩) := v12
      replace v13 : uu 13 = .pointer (some ⟨b7, 0, none⟩) := v13
      replace v15 : uu 15 = .pointer (some ⟨b7, 0, none⟩) := v15
      replace v16 : uu 16 = .pointer (some ⟨b7, 1, none⟩) := v16
      obtain ⟨hKp, cs, r1, r2, r3, r4⟩ := hG
      obtain ⟨cs1, r5, -, r6⟩ := v14
      obtain ⟨cs2, r7, -, r8⟩ := v17
      rw [r1] at r5 r7
      cases r5
      cases r7
      simp [allPut, Act.put, Act.eval, v5] at r6
      simp [allPut, Act.put, Act.eval, v11] at r8
      have hcs := arr4 r2 r6 r8 r3 r4
      rw [hcs] at r1
      simp only [allPut, Act.put, v0, v1, v2, v3, v4, v5, v6, v7, v8, v9, v10, v11, v12, v13, v15, v16]
      try simp only [List.setIfInBounds_toArray, List.set_cons_zero, List.set_cons_succ]
      have stX : Blk w w2 [(pb, #[.int .i64 p.1, .int .i64 p.2], 27), (w.heap.size, #[.int .i64 0, .int .i64 0, .int .i64 0, .int .i64 0], 42)] := ⟨(fun i x hx => by
        rcases i with _ | _ | i
        · cases hx; exact st2.known 0 _ rfl
        · cases hx; exact st2.known 2 _ rfl
        · cases hx), st2.hb⟩
      have st3 := (stX.keep hKp (fun i x hx => by rcases i with _ | _ | i <;> cases hx <;> simp <;> omega) (by intro z hz; simp at hz; omega)).add r1
      clear st2 stX hKp hI hD hrow0 r2 r3 r4 r6 r8 hcs y0 y1 v0 v1 v2 v3 v4 v5 v6 v7 v8 v9 v10 v11 v12 v13 v15 v16
      generalize uu 14 = z14 at *
      generalize uu 17 = z17 at *
      generalize (if p.1 < b0 then p.1 else b0) = m0 at *
      generalize (if p.2 < b1 then p.2 else b1) = m1 at *
      go_wp2_with (with_reducible refine stop_region ?_)
      refine ⟨?_⟩
      have y0 := st3.cell 1 rfl 0
      have y1 := st3.cell 1 rfl 1
      simp only [List.getElem?_toArray, List.getElem?_cons_zero, List.getElem?_cons_succ] at y0 y1
      have hrow0 := st3.known 0 _ rfl
      refine wp_region_J (G := fun z => Keep [b7] wz z ∧ ∃ cs, z.heap[b7]? = some (.cells cs 42 (0, 0)) ∧ cs.size = 4 ∧ cs[0]? = some (.int .i64 m0) ∧ cs[1]? = some (.int .i64 m1)) (B0 := wz.heap.size) (plan := [.val (.pointer (some ⟨b7, 2, none⟩)), .val (.pointer (some ⟨b7, 2, none⟩)), .val (.int .i64 b2), .val (.pointer (some ⟨pb, 0, none⟩)), .val (.int .i64 p.1), .val (.int .i64 (if b2 < p.1 then p.1 else b2)), .val (.pointer (some ⟨b7, 2, none⟩)), .val (.pointer (some ⟨b7, 3, none⟩)), .val (.int .i64 b3), .val (.pointer (some ⟨pb, 1, none⟩)), .val (.int .i64 p.2), .val (.int .i64 (if b3 < p.2 then p.2 else b3)), .val (.pointer (some ⟨b7, 2, none⟩)), .val (.pointer (some ⟨b7, 2, none⟩)), .cel b7 2 (.int .i64 b2) 44 4 42, .val (.pointer (some ⟨b7, 2, none⟩)), .val (.pointer (some ⟨b7, 3, none⟩)), .cel b7 3 (.int .i64 b3) 50 4 42])
        (ns := [[.ini 3], [.frm 0 39], [.frm 1 40, .til 14], [.ini 5], [.frm 3 42], [.frm 2 41, .frm 4 43], [.ini 3], [.frm 6 45], [.frm 7 46, .til 17], [.ini 5], [.frm 9 48], [.frm 8 47, .frm 10 49], [.ini 3], [.frm 12 51], [.frm 13 52, .frm 5 44, .til 14], [.ini 3], [.frm 15 53], [.frm 16 54, .frm 11 50, .til 17]]) mixed (by kernel_rfl) (by kernel_rfl) (allPre_of ⟨trivial, trivial, trivial, trivial, trivial, trivial, trivial, trivial, trivial, trivial, trivial, trivial, trivial, trivial, ⟨_, hrow0, rfl, rfl⟩, trivial, trivial, ⟨_, hrow0, rfl, rfl⟩, trivial⟩)
        ⟨Keep.drew (Keep.refl _ _), _, hrow0, rfl, rfl, rfl⟩ (fun _ _ e h => ⟨Keep.ext e h.1, by obtain ⟨-, c', e1, e2, e3, e4⟩ := h; exact ⟨c', (e.block _ (lt_of_some e1)).trans e1, e2, e3, e4⟩⟩) (fun _ h => h.1.size)
        ⟨OpOk.quiet rfl ?_, OpOk.quiet rfl ?_, OpOk.quiet rfl ?_, OpOk.quiet rfl ?_, OpOk.quiet rfl ?_, OpOk.quiet rfl ?_, OpOk.quiet rfl ?_, OpOk.quiet rfl ?_, OpOk.quiet rfl ?_, OpOk.quiet rfl ?_, OpOk.quiet rfl ?_, OpOk.quiet rfl ?_, OpOk.quiet rfl ?_, OpOk.quiet rfl ?_, OpOk.cel rfl rfl ⟨.inr (.inl ⟨rfl, fun _ _ h => h⟩), .inr (.inl ⟨rfl, fun _ _ h => h⟩), .inr (.inl ⟨rfl, fun _ _ h => h⟩), .inr (.inl ⟨rfl, fun _ _ h => h⟩), .inr (.inl ⟨rfl, fun _ _ h => h⟩), .inr (.inl ⟨rfl, fun _ _ h => h⟩), .inr (.inl ⟨rfl, fun _ _ h => h⟩), .inr (.inl ⟨rfl, fun _ _ h => h⟩), .inr (.inl ⟨rfl, fun _ _ h => h⟩), .inr (.inl ⟨rfl, fun _ _ h => h⟩), .inr (.inl ⟨rfl, fun _ _ h => h⟩), .inr (.inl ⟨rfl, fun _ _ h => h⟩), .inr (.inl ⟨rfl, fun _ _ h => h⟩), .inr (.inl ⟨rfl, fun _ _ h => h⟩), .inl rfl, .inr (.inl ⟨rfl, fun _ _ h => h⟩), .inr (.inl ⟨rfl, fun _ _ h => h⟩), .inr (.inr ⟨3, _, _, by decide, rfl⟩), trivial⟩ (by kernel_rfl) ?_ (fun z cs v hz h => ⟨Keep.setRow hz.1 (.inr (by simp)), _, setRow_same h, by obtain ⟨-, c', e1, e2, -⟩ := hz; rw [h] at e1; cases e1; simpa using e2, by obtain ⟨-, c', e1, -, e3, -⟩ := hz; rw [h] at e1; cases e1; rw [Array.getElem?_setIfInBounds_ne (by decide)]; exact e3, by obtain ⟨-, c', e1, -, -, e3⟩ := hz; rw [h] at e1; cases e1; rw [Array.getElem?_setIfInBounds_ne (by decide)]; exact e3⟩), OpOk.quiet rfl ?_, OpOk.quiet rfl ?_, OpOk.cel rfl rfl ⟨.inr (.inl ⟨rfl, fun _ _ h => h⟩), .inr (.inl ⟨rfl, fun _ _ h => h⟩), .inr (.inl ⟨rfl, fun _ _ h => h⟩), .inr (.inl ⟨rfl, fun _ _ h => h⟩), .inr (.inl ⟨rfl, fun _ _ h => h⟩), .inr (.inl ⟨rfl, fun _ _ h => h⟩), .inr (.inl ⟨rfl, fun _ _ h => h⟩), .inr (.inl ⟨rfl, fun _ _ h => h⟩), .inr (.inl ⟨rfl, fun _ _ h => h⟩), .inr (.inl ⟨rfl, fun _ _ h => h⟩), .inr (.inl ⟨rfl, fun _ _ h => h⟩), .inr (.inl ⟨rfl, fun _ _ h => h⟩), .inr (.inl ⟨rfl, fun _ _ h => h⟩), .inr (.inl ⟨rfl, fun _ _ h => h⟩), .inr (.inr ⟨2, _, _, by decide, rfl⟩), .inr (.inl ⟨rfl, fun _ _ h => h⟩), .inr (.inl ⟨rfl, fun _ _ h => h⟩), .inl rfl, trivial⟩ (by kernel_rfl) ?_ (fun z cs v hz h => ⟨Keep.setRow hz.1 (.inr (by simp)), _, setRow_same h, by obtain ⟨-, c', e1, e2, -⟩ := hz; rw [h] at e1; cases e1; simpa using e2, by obtain ⟨-, c', e1, -, e3, -⟩ := hz; rw [h] at e1; cases e1; rw [Array.getElem?_setIfInBounds_ne (by decide)]; exact e3, by obtain ⟨-, c', e1, -, -, e3⟩ := hz; rw [h] at e1; cases e1; rw [Array.getElem?_setIfInBounds_ne (by decide)]; exact e3⟩), trivial⟩ ?_
      · intro a u _ hf
        simp [facts, Need.fact, Ent.val, Act.eval] at hf
        go_simp
      · intro a u _ hf
        simp [facts, Need.fact, Ent.val, Act.eval] at hf
        go_simp
      · intro a u hG hf
        obtain ⟨⟨_, _, f1⟩, ⟨cs, g1, g2, g3⟩, -⟩ := hf
        have f1' : a.eval (.tmp 40) = .pointer (some ⟨b7, 2, none⟩) := f1
        have q1 := (cellAt g1 2).trans g3
        simp [Act.eval] at f1'
        clear f1
        go_simp
      · intro a u _ hf
        simp [facts, Need.fact, Ent.val, Act.eval] at hf
        go_simp
      · intro a u hG hf
        simp [facts, Need.fact, Ent.val, Act.eval] at hf
        have q1 := (hG.1.cell (p := ⟨pb, 0, none⟩) (st3.lt 1 rfl) (by simp; omega)).trans y0
        go_simp
      · intro a u _ hf
        simp [facts, Need.fact, Ent.val, Act.eval] at hf
        go_simp
      · intro a u _ hf
        simp [facts, Need.fact, Ent.val, Act.eval] at hf
        go_simp
      · intro a u _ hf
        simp [facts, Need.fact, Ent.val, Act.eval] at hf
        go_simp
      · intro a u hG hf
        obtain ⟨⟨_, _, f1⟩, ⟨cs, g1, g2, g3⟩, -⟩ := hf
        have f1' : a.eval (.tmp 46) = .pointer (some ⟨b7, 3, none⟩) := f1
        have q1 := (cellAt g1 3).trans g3
        simp [Act.eval] at f1'
        clear f1
        go_simp
      · intro a u _ hf
        simp [facts, Need.fact, Ent.val, Act.eval] at hf
        go_simp
      · intro a u hG hf
        simp [facts, Need.fact, Ent.val, Act.eval] at hf
        have q1 := (hG.1.cell (p := ⟨pb, 1, none⟩) (st3.lt 1 rfl) (by simp; omega)).trans y1
        go_simp
      · intro a u _ hf
        simp [facts, Need.fact, Ent.val, Act.eval] at hf
        go_simp
      · intro a u _ hf
        simp [facts, Need.fact, Ent.val, Act.eval] at hf
        go_simp
      · intro a u _ hf
        simp [facts, Need.fact, Ent.val, Act.eval] at hf
        go_simp
      · intro a u hG hf
        obtain ⟨⟨_, _, f1⟩, ⟨_, _, f2⟩, ⟨cs, g1, g2, g3⟩, -⟩ := hf
        have f1' : a.eval (.tmp 52) = .pointer (some ⟨b7, 2, none⟩) := f1
        have f2' : a.eval (.tmp 44) = .int .i64 (if b2 < p.1 then p.1 else b2) := f2
        exact ⟨f1', by rw [f2']; rfl, cs, g1, g2, by decide⟩
      · intro a u _ hf
        simp [facts, Need.fact, Ent.val, Act.eval] at hf
        go_simp
      · intro a u _ hf
        simp [facts, Need.fact, Ent.val, Act.eval] at hf
        go_simp
      · intro a u hG hf
        obtain ⟨⟨_, _, f1⟩, ⟨_, _, f2⟩, ⟨cs, g1, g2, g3⟩, -⟩ := hf
        have f1' : a.eval (.tmp 54) = .pointer (some ⟨b7, 3, none⟩) := f1
        have f2' : a.eval (.tmp 50) = .int .i64 (if b3 < p.2 then p.2 else b3) := f2
        exact ⟨f1', by rw [f2']; rfl, cs, g1, g2, by decide⟩
      intro uu lw hw wy hG hE hI hD
      obtain ⟨v0, v1, v2, v3, v4, v5, v6, v7, v8, v9, v10, v11, v12, v13, v14, v15, v16, v17, -⟩ := hE
      replace v0 : uu 0 = .pointer (some ⟨b7, 2, none⟩) := v0
      replace v1 : uu 1 = .pointer (some ⟨b7, 2, none⟩) := v1
      replace v2 : uu 2 = .int .i64 b2 := v2
      replace v3 : uu 3 = .pointer (some ⟨pb, 0, none⟩) := v3
      replace v4 : uu 4 = .int .i64 p.1 := v4
      replace v5 : uu 5 = .int .i64 (if b2 < p.1 then p.1 else b2) := v5
      replace v6 : uu 6 = .pointer (some ⟨b7, 2, none⟩) := v6
      replace v7 : uu 7 = .pointer (some ⟨b7, 3, none⟩) := v7
      replace v8 : uu 8 = .int .i64 b3 := v8
      replace v9 : uu 9 = .pointer (some ⟨pb, 1, none⟩) := v9
      replace v10 : uu 10 = .int .i64 p.2 := v10
      replace v11 : uu 11 = .int .i64 (if b3 < p.2 then p.2 else b3) := v11
      replace v12 : uu 12 = .pointer (some ⟨b7, 2, none⟩) := v12
      replace v13 : uu 13 = .pointer (some ⟨b7, 2, none⟩) := v13
      replace v15 : uu 15 = .pointer (some ⟨b7, 2, none⟩) := v15
      replace v16 : uu 16 = .pointer (some ⟨b7, 3, none⟩) := v16
      obtain ⟨hKp, cs, r1, r2, r3, r4⟩ := hG
      obtain ⟨cs1, r5, -, r6⟩ := v14
      obtain ⟨cs2, r7, -, r8⟩ := v17
      rw [r1] at r5 r7
      cases r5
      cases r7
      simp [allPut, Act.put, Act.eval, v5] at r6
      simp [allPut, Act.put, Act.eval, v11] at r8
      have hcs := arr4 r2 r3 r4 r6 r8
      rw [hcs] at r1
      simp only [allPut, Act.put, v0, v1, v2, v3, v4, v5, v6, v7, v8, v9, v10, v11, v12, v13, v15, v16]
      try simp only [List.setIfInBounds_toArray, List.set_cons_zero, List.set_cons_succ]
      have stX : Blk w wz [(w.heap.size, #[.int .i64 0, .int .i64 0, .int .i64 0, .int .i64 0], 42)] := ⟨(fun i x hx => by
        rcases i with _ | i
        · cases hx; exact st3.known 2 _ rfl
        · cases hx), st3.hb⟩
      have st4 := (stX.keep hKp (fun i x hx => by rcases i with _ | i <;> cases hx <;> simp <;> omega) (by intro z hz; simp at hz; omega)).add r1
      clear st3 stX hKp hI hD hrow0 r2 r3 r4 r6 r8 hcs y0 y1 v0 v1 v2 v3 v4 v5 v6 v7 v8 v9 v10 v11 v12 v13 v15 v16
      generalize uu 14 = z14 at *
      generalize uu 17 = z17 at *
      generalize (if b2 < p.1 then p.1 else b2) = m2 at *
      generalize (if b3 < p.2 then p.2 else b3) = m3 at *
      have hbk' : Blk w wy [(b7, #[.int .i64 (bxn l (k + 1)).1, .int .i64 (bxn l (k + 1)).2.1, .int .i64 (bxn l (k + 1)).2.2.1, .int .i64 (bxn l (k + 1)).2.2.2], 42), (w.heap.size, #[.int .i64 0, .int .i64 0, .int .i64 0, .int .i64 0], 42)] := by
        rw [hbk2.out]
        exact st4
      clear st4 hbk2
      go_wp2
      exact ⟨⟨k + 1, hlt, by go_num, hbk'⟩, by simp only [intOf]; omega⟩
    · obtain rfl : k = n := by omega
      have x0 := hst.cell 0 rfl 0
      have x1 := hst.cell 0 rfl 1
      have x2 := hst.cell 0 rfl 2
      have x3 := hst.cell 0 rfl 3
      simp only [List.getElem?_toArray, List.getElem?_cons_zero, List.getElem?_cons_succ] at x0 x1 x2 x3
      have f := fun o => hst.frozen 1 rfl o
      have z0 := hst.cell 1 rfl 0
      have z1 := hst.cell 1 rfl 1
      have z2 := hst.cell 1 rfl 2
      have z3 := hst.cell 1 rfl 3
      simp only [List.getElem?_toArray, List.getElem?_cons_zero, List.getElem?_cons_succ] at z0 z1 z2 z3
      generalize hbE : bxn l k = b at *
      obtain ⟨b0, b1, b2, b3⟩ := b
      go_wp2
      have hne2 : b7 ≠ w.heap.size := by omega
      have p0 := hst.put (o := 0) (v := .int .i64 b0) 1 rfl ⟨.inr hne2, .inl rfl, trivial⟩ (Nat.le_refl _)
      have p1 := p0.put (o := 1) (v := .int .i64 b1) 1 rfl ⟨.inr hne2, .inl rfl, trivial⟩ (Nat.le_refl _)
      have p2 := p1.put (o := 2) (v := .int .i64 b2) 1 rfl ⟨.inr hne2, .inl rfl, trivial⟩ (Nat.le_refl _)
      have p3 := p2.put (o := 3) (v := .int .i64 b3) 1 rfl ⟨.inr hne2, .inl rfl, trivial⟩ (Nat.le_refl _)
      simp only [List.set_cons_zero, List.set_cons_succ, List.setIfInBounds_toArray] at p3
      clear p0 p1 p2 hst x0 x1 x2 x3 z0 z1 z2 z3 f
      generalize (((wr.setCell _ _).setCell _ _).setCell _ _).setCell _ _ = w5 at *
      have d0 := p3.cell 1 rfl 0
      have d1 := p3.cell 1 rfl 1
      have d2 := p3.cell 1 rfl 2
      have d3 := p3.cell 1 rfl 3
      simp only [List.getElem?_toArray, List.getElem?_cons_zero, List.getElem?_cons_succ] at d0 d1 d2 d3
      exact bodyPost_ret (v := .agg #[.int .i64 b0, .int .i64 b1, .int .i64 b2, .int .i64 b3]) (by simp [results, Tryz.results27, go_sem, d0, d1, d2, d3]) rfl ⟨by first | rfl | simp only [hbE], p3.hb⟩
end Go.Proofs.YtbeoijpdacpaaaaGreat
set_option linter.unusedSimpArgs false
set_option linter.unusedVariables false
/-! laws.zzFits1, zzFits2, scenePoly, scenePoint (printed by gen/yk.py). -/
namespace Go.Proofs.YtbeoijpdacpaaaaGreat
open Go Go.RowKit PF JR
set_option maxHeartbeats 1000000 in
theorem fits2_c (H : List (List (Int × Int))) (hH : H.length ≤ 9223372036854775807) (hl : ∀ h ∈ H, h.length ≤ 9223372036854775807) (v : Value) (w : World) (hv : SlH w v H) :
    Calls Tryz.prog 39 #[v] w fun e w' => e = .returned (.bool (decide (H.length ≤ 2147483647) && H.all fun h => decide (h.length ≤ 2147483647))) ∧ Below w.heap.size w w' := by
  obtain ⟨A, c, rfl, hk⟩ := hv
  generalize hAns : (decide (H.length ≤ 2147483647) && H.all fun h => decide (h.length ≤ 2147483647)) = ans
  by_cases h0 : H.length ≤ 2147483647
  · have d0 : ¬ (2147483647 : Int) < (H.length : Int) := by omega
    have d1 := decide_eq_false d0
    rw [decide_eq_true h0, Bool.true_and] at hAns
    go_enter Tryz.func39, Tryz.ntmps39
    go_wp2
    go_loopw [10] (fun i wr => ∃ k : Nat, k ≤ H.length ∧ i = .int .i64 k ∧ (∀ h ∈ H.take k, h.length ≤ 2147483647) ∧ Below w.heap.size w wr) (fun i _ => H.length - (intOf i).toNat)
    case atStart => exact ⟨0, Nat.zero_le _, rfl, by simp, Below.refl _ _⟩
    case round =>
      obtain ⟨k, hkl, rfl, hall, hnx⟩ := hrel
      rcases Nat.lt_or_ge k H.length with hlt | hge
      · obtain ⟨h, hh⟩ : ∃ h, H[k]? = some h := ⟨H[k], by simp [hlt]⟩
        obtain ⟨b, off, vh, rfl, h1, h2⟩ := hk k h hh
        obtain ⟨A', c', rfl⟩ := h2.len
        have g1 := (hnx.cell (World.block_lt_of_cell? w _ h1)).trans h1
        have hlen := hl h (List.mem_of_getElem? hh)
        clear h1 h2 hk
        by_cases hb : h.length ≤ 2147483647
        · have d2 : ¬ (2147483647 : Int) < (h.length : Int) := by omega
          have d3 := decide_eq_false d2
          go_wp2
          go_roundw
          case rel =>
            refine ⟨k + 1, by omega, by go_num, ?_, hnx⟩
            intro x hx
            rw [List.take_add_one, hh] at hx
            simp at hx
            rcases hx with hx | rfl
            · exact hall x hx
            · exact hb
          case measure => simp [intOf]; omega
        · have d2 : (2147483647 : Int) < (h.length : Int) := by omega
          have d3 := decide_eq_true d2
          have hans : ans = false := by
            rw [← hAns]
            cases hx : H.all fun h => decide (h.length ≤ 2147483647) with
            | false => rfl
            | true =>
              rw [List.all_eq_true] at hx
              exact absurd (of_decide_eq_true (hx h (List.mem_of_getElem? hh))) hb
          clear hAns hall
          go_wp2
          go_ret
          exact ⟨by rw [hans]; rfl, hnx⟩
      · have hkk : k = H.length := by omega
        subst hkk
        rw [List.take_length] at hall
        have hans : ans = true := by
          rw [← hAns, List.all_eq_true]
          exact fun x hx => decide_eq_true (hall x hx)
        clear hAns hall hk
        go_wp2
        go_ret
        exact ⟨by rw [hans]; rfl, hnx⟩
  · have d0 : (2147483647 : Int) < (H.length : Int) := by omega
    have d1 := decide_eq_true d0
    rw [decide_eq_false h0, Bool.false_and] at hAns
    subst hAns
    go_enter Tryz.func39, Tryz.ntmps39
    go_wp2
    go_ret
    exact ⟨rfl, Below.refl _ _⟩

set_option maxHeartbeats 1000000 in
theorem fits1_c (l : List (Int × Int)) (H : List (List (Int × Int))) (hl0 : l.length ≤ 9223372036854775807) (hH : H.length ≤ 9223372036854775807) (hl : ∀ h ∈ H, h.length ≤ 9223372036854775807) (v vh : Value) (w : World) (hv : SlP w v l) (hh : SlH w vh H) :
    Calls Tryz.prog 15 #[.agg #[v, vh]] w fun e w' => e = .returned (.bool (decide (l.length ≤ 2147483647) && (decide (H.length ≤ 2147483647) && H.all fun h => decide (h.length ≤ 2147483647)))) ∧ Below w.heap.size w w' := by
  obtain ⟨A, c, rfl⟩ := hv.len
  have st0 := (Blk.nil w).push rfl #[.slice A l.length c, vh] 25
  have hh' := hh.below st0.hb
  by_cases h0 : l.length ≤ 2147483647
  · have d0 : ¬ (2147483647 : Int) < (l.length : Int) := by omega
    have d1 := decide_eq_false d0
    rw [decide_eq_true h0, Bool.true_and]
    have c8 := fun w h => fits2_c H hH hl vh w h
    generalize (decide (H.length ≤ 2147483647) && H.all fun h => decide (h.length ≤ 2147483647)) = ans at *
    go_enter Tryz.func15, Tryz.ntmps15
    go_wp2_with (go_at_call 39; refine (c8 _ hh').mono ?_; rintro e w1 ⟨rfl, hb⟩)
    all_goals cases ans
    all_goals first | (exfalso; simp at *; done) | skip
    all_goals
      go_wp2
      go_ret
      exact ⟨rfl, st0.hb.trans (hb.mono (by simp))⟩
  · have d0 : (2147483647 : Int) < (l.length : Int) := by omega
    have d1 := decide_eq_true d0
    rw [decide_eq_false h0, Bool.false_and]
    go_enter Tryz.func15, Tryz.ntmps15
    go_wp2
    go_ret
    exact ⟨rfl, st0.hb⟩
theorem infoPsS : (Tryz.prog.info? 31).map (fun i => (i.zero, i.size, i.bytes)) = some (some (.slice none 0 0), 1, 24) := by kernel_rfl
set_option maxRecDepth 100000 in
set_option maxHeartbeats 4000000 in
theorem scPo_r (l : List (Int × Int)) (H : List (List (Int × Int))) (hl : l.length ≤ 2147483647) (hl0 : 0 < l.length) (hH3 : H.length ≤ 3) (hHs : ∀ x ∈ H, 3 ≤ x.length ∧ x.length ≤ 12) (v vh : Value) (w : World) (hv : SlP w v l) (hvh : SlH w vh H) :
    Calls Tryz.prog 19 #[.agg #[v, vh]] w fun e w' => ∃ v' vh', e = .returned (.agg #[.int .i64 3, v', vh']) ∧ SlR w.heap.size w'.heap.size w' v' l ∧ SlHR w.heap.size w'.heap.size w' vh' H ∧ Below w.heap.size w w' := by
  obtain ⟨Av, cv, rfl, -⟩ := id hv
  obtain ⟨A, c, rfl, hk⟩ := id hvh
  obtain ⟨i0, hi, hz0, hz1, hz2⟩ := info_parts infoPsS
  have stP := ((Blk.nil w).push rfl #[.slice Av l.length cv, .slice A H.length c] 25).push (b := w.heap.size + 1) (by simp) #[.int .i64 0, .slice none 0 0, .slice none 0 0] 34
  have hlH : ∀ j, H.length = j → H.length = j := fun _ h => h
  clear hlH
  go_enter Tryz.func19, Tryz.ntmps19
  go_wp2_with (go_at_call 42; refine JR.StopY.out ?_)
  refine ⟨?_⟩
  refine (scp_n l hl _ _ (hv.below stP.hb)).mono ?_
  rintro e wa ⟨v5, rfl, hS, hb⟩
  obtain ⟨A5, c5, rfl, -⟩ := id hS
  have stA := stP.ext hb
  obtain ⟨b5, j1, j2, j3, r5⟩ := hS.one hl0
  have st1 := stA.push (b := wa.heap.size) rfl #[.int .i64 3, .slice A5 l.length c5, .slice none 0 0] 34
  have r5 := r5.keep' (w' := wa.alloc (.cells #[.int .i64 3, .slice A5 l.length c5, .slice none 0 0] 34)) fun b h1 h2 h3 => Below.heap_alloc wa _ b h3
  have hb5 : w.heap.size + 2 ≤ b5 := by simp at j1; omega
  have hb57 : b5 < wa.heap.size := j3
  have hsz7 : (wa.alloc (.cells #[.int .i64 3, .slice A5 l.length c5, .slice none 0 0] 34)).heap.size = wa.heap.size + 1 := by simp
  have m2 := st1.cell 2 rfl 1
  simp only [List.getElem?_toArray, List.getElem?_cons_zero, List.getElem?_cons_succ] at m2
  clear hb stP stA hS j1 j2 j3 hv hvh
  go_wp2
  generalize wa.alloc _ = wc at *
  generalize wa.heap.size = b7 at *
  have hb7 : w.heap.size + 3 ≤ b7 := by omega
  have hb7w : b7 < wc.heap.size := by omega
  obtain ⟨Bs, hBs⟩ : ∃ x, wc.heap.size = x := ⟨_, rfl⟩
  go_loopw [13] (fun i wr => ∃ k : Nat, k ≤ H.length ∧ i = .int .i64 k ∧ ∃ (vo : Value) (xs : List Value), wr.ownsRow Bs 31 1 vo k xs ∧
    (∀ (j : Nat) (x : List (Int × Int)), j < k → H[j]? = some x → ∃ y b, xs[j]? = some y ∧ Bs ≤ b ∧ b < wr.heap.size ∧ SlR b (b + 1) wr y x) ∧
    SlR b5 (b5 + 1) wr (.slice A5 l.length c5) l ∧ Bs ≤ wr.heap.size ∧ Blk w wr ((b7, #[.int .i64 3, .slice A5 l.length c5, vo], 34) :: [(w.heap.size + 1, #[.int .i64 0, .slice none 0 0, .slice none 0 0], 34), (w.heap.size, #[.slice Av l.length cv, .slice A H.length c], 25)])) (fun i _ => H.length - (intOf i).toNat)
  case atStart => exact ⟨0, Nat.zero_le _, rfl, .slice none 0 0, [], World.ownsRow_nil _ _ _ _, fun j x hj => absurd hj (Nat.not_lt_zero _), r5, Nat.le_of_eq hBs.symm, st1⟩
  case round =>
    clear r5 st1 m2
    obtain ⟨k, hkl, rfl, vo, xs, hown, hqs, hr5, hBr, hB⟩ := hrel
    rcases Nat.lt_or_ge k H.length with hlt | hge
    · obtain ⟨x, hx⟩ : ∃ x, H[k]? = some x := ⟨H[k], by simp [hlt]⟩
      obtain ⟨bb, off, y, rfl, h1, h2⟩ := hk k x hx
      obtain ⟨Ay, cy, hyy⟩ := h2.len
      subst hyy
      have hxs := hHs x (List.mem_of_getElem? hx)
      have hxl : x.length ≤ 12 := hxs.2
      have hxl0 : 0 < x.length := by omega
      have hlt' : (k : Int) < (H.length : Int) := by omega
      have gy := (hB.hb.cell (World.block_lt_of_cell? w _ h1)).trans h1
      have hfg := fun g (hg : vo.ownBlock = some g) => hown.lt g hg
      have hrow := hB.known 0 _ rfl
      have hb7r : b7 < wr.heap.size := hB.lt 0 rfl
      have hwr := hB.hb.size
      have hnb : b7 ∉ vo.ownBlock.toList := by intro hm; simp at hm; have := (hfg _ hm).1; omega
      have hX : ∀ z ∈ b7 :: vo.ownBlock.toList, w.heap.size ≤ z := by intro z hm; simp at hm; rcases hm with hm | hm; omega; have := (hfg _ hm).1; omega
      have hk3 : H.length ≤ 3 := hH3
      have hHp : ∀ x ∈ H, 3 ≤ x.length := fun x hx => (hHs x hx).1
      clear h1 hk hHs hxs
      go_wp2
      refine wp_region_K (b7 :: vo.ownBlock.toList) [.val (.pointer (some ⟨b7, 2, none⟩)), .val vo, .val (.slice Ay x.length cy), .slr x, .slcS 31 20, .appS vo k xs Bs 31 20, .val (.pointer (some ⟨b7, 2, none⟩)), .turnS b7 #[.int .i64 3, .slice A5 l.length c5, vo] 2 22 34]
        [[.ini 3], [.frm 0 17, .til 7], [.ini 5], [.frm 2 19], [.frm 3 20], [.frm 1 18, .frm 4 21, .til 5, .frm 3 20], [.ini 3], [.frm 6 23, .frm 5 22, .til 7]]
        mixed (by kernel_rfl) (by kernel_rfl) (allPre_of ⟨trivial, trivial, trivial, trivial, trivial, hown, trivial, hrow, trivial⟩)
        ⟨OpOk.quiet rfl ?_, OpOk.quiet rfl ?_, OpOk.quiet rfl ?_, OpOk.call rfl ?_, OpOk.slcS rfl ?_,
          OpOk.appS (inf := i0) rfl rfl Tryz.underlying32 hi hz0 hz1 hz2 rfl (by unfold maxLen; omega) (by omega) hBr (fun _ hG => hG.size) (fun b hb => (hfg b hb).2) (fun b hb => ⟨row_still rfl, row_still rfl, row_still rfl, row_none rfl (fun h => (nomatch h)), row_slcS, row_self rfl, row_still rfl, row_turnS (by have := (hfg b hb).1; omega), trivial⟩) (fun b hb => oldFree_of ⟨.inr (fun h => (nomatch h)), .inr (fun h => (nomatch h)), .inr (fun h => (nomatch h)), .inr (fun h => (nomatch h)), .inr (fun h => (nomatch h)), .inl rfl, .inr (fun h => (nomatch h)), .inr (by have := (hfg b hb).1; simp [Ent.turnS]; omega), trivial⟩) ?_ (fun _ b _ hb h => Keep.setRow h (.inr (by simp [hb]))),
          OpOk.quiet rfl ?_,
          OpOk.turnS rfl rfl (lt_of_some hrow) ⟨row_still rfl, row_still rfl, row_still rfl, row_none rfl (fun h => (nomatch h)), row_slcS, row_appS hnb, row_still rfl, row_self rfl, trivial⟩ (oldFree_of ⟨.inr (fun h => (nomatch h)), .inr (fun h => (nomatch h)), .inr (fun h => (nomatch h)), .inr (fun h => (nomatch h)), .inr (fun h => (nomatch h)), .inr hnb, .inr (fun h => (nomatch h)), .inl rfl, trivial⟩) (by kernel_rfl) (by simp) ?_ (fun _ _ h => Keep.setRow h (.inr (by simp))), trivial⟩ ?_
      · intro a u _ hf
        simp [facts, Need.fact, Act.eval] at hf
        go_simp
      · intro a u _ hf
        obtain ⟨⟨_, _, f1⟩, f2, -⟩ := hf
        have f1' : a.eval (.tmp 17) = .pointer (some ⟨b7, 2, none⟩) := f1
        have c11 := cellAt (show u.heap[b7]? = some (.cells #[.int .i64 3, .slice A5 l.length c5, vo] 34 (0, 0)) from f2) 2
        simp only [List.getElem?_toArray, List.getElem?_cons_zero, List.getElem?_cons_succ] at c11
        clear f1 f2
        simp [Act.eval] at f1'
        go_simp
      · intro a u _ hf
        simp [facts, Need.fact, Act.eval] at hf
        go_simp
      · intro a u hG hf
        simp [facts, Need.fact, Ent.val, Act.eval] at hf
        have s1 := h2.below (Keep.belowX hG hB.hb hB.hb.size hX)
        refine ⟨_, _, by go_simp, (scp_n x (by omega) _ _ s1).mono ?_⟩
        rintro e w' ⟨v', rfl, hr, hb⟩
        exact ⟨_, rfl, hb, hr⟩
      · intro a u _ hf
        obtain ⟨⟨_, _, f2⟩, -⟩ := hf
        obtain ⟨A9, c9, f3⟩ := SlR.len f2
        simp [Act.eval] at f3
        go_simp
      · intro a u _ hf
        obtain ⟨⟨_, _, f1⟩, ⟨_, _, b, f2, _, _, f3⟩, f4, ⟨_, _, f5⟩, -⟩ := hf
        obtain ⟨A9, c9, f6⟩ := SlR.len f5
        exact ⟨f1, f4, by rw [f6]; rfl, b, f2, f3⟩
      · intro a u _ hf
        simp [facts, Need.fact, Act.eval] at hf
        go_simp
      · intro a u _ hf
        obtain ⟨⟨_, _, f1⟩, ⟨_, _, f2, f5⟩, f4, -⟩ := hf
        exact ⟨f1, own_one f2, f4⟩
      intro u lw hw wc2 hKp hE hI hD
      simp [allE, Ent.appS, Ent.slcS, Ent.slr, Ent.turnS, Ent.val] at hE
      obtain ⟨u0, u1, u2, u3, -, u5, u6, e7⟩ := hE
      simp only [allPut, Act.put, u0, u2, u6]
      clear u0 u2 u6
      simp [allPut, Act.put, Act.eval] at e7
      replace u3 : SlR (lw 3) (hw 3) wc2 (u 3) x := u3
      obtain ⟨o6, -⟩ := u5
      simp [allPut, Act.put, Act.eval] at o6
      have i4 := hI 3 (by show 3 < 8; omega)
      have hBe := Keep.belowX hKp hB.hb hB.hb.size hX
      have hxsl : xs.length = k := by have := hown.1; omega
      have h00 : 0 < k → ∃ A m c, xs[0]? = some (.slice A m c) := by
        intro hk0
        obtain ⟨y0, b0, e1, e2, e3, e4⟩ := hqs 0 (H[0]'(by omega)) hk0 (by simp)
        obtain ⟨A', c', e4⟩ := e4.len
        exact ⟨A', _, c', by rw [e1, e4]⟩
      have hqs2 : ∀ (j : Nat) (x2 : List (Int × Int)), j < k + 1 → H[j]? = some x2 → ∃ y b, (xs ++ [u 3])[j]? = some y ∧ Bs ≤ b ∧ b < wc2.heap.size ∧ SlR b (b + 1) wc2 y x2 := by
        intro j x2 hj hx2
        by_cases hjk : j = k
        · subst hjk
          rw [hx] at hx2
          cases hx2
          obtain ⟨b1, j1, j2, j3, r1⟩ := u3.one hxl0
          exact ⟨u 3, b1, by rw [List.getElem?_append_right (by omega)]; simp [hxsl], by have := i4.2; omega, j3, r1⟩
        · obtain ⟨y', b', e1, e2, e3, e4⟩ := hqs j x2 (by omega) hx2
          have hx20 : 0 < x2.length := by
            have := hHp x2 (List.mem_of_getElem? hx2); omega
          have hne := own_neR hown (h00 (by omega)) e4 hx20
          refine ⟨y', b', by rw [List.getElem?_append_left (by omega)]; exact e1, e2, Nat.lt_of_lt_of_le e3 hKp.size, e4.keep' fun b h1 h2 h3 => ?_⟩
          have hbb : b = b' := by omega
          subst hbb
          exact hKp.block b h3 (by
            intro hm
            simp at hm
            rcases hm with hm | hm
            · omega
            · exact hne hm.symm)
      have hr52 := hr5.keep' (w' := wc2) fun b h1 h2 h3 => hKp.block b h3 (by
        intro hm
        simp at hm
        rcases hm with hm | hm
        · omega
        · have := (hfg _ hm).1; omega)
      have hB2 := (hB.tail.keep hKp (fun i z hz => by
        intro hm
        simp at hm
        rcases i with _ | _ | i <;> simp at hz <;> subst hz <;> simp at hm <;> (rcases hm with hm | hm; omega; have := (hfg _ hm).1; omega)) (fun z hz => hX z hz)).add e7
      have hBs2 : Bs ≤ wc2.heap.size := Nat.le_trans hBr hKp.size
      try simp only [List.setIfInBounds_toArray, List.set_cons_zero, List.set_cons_succ]
      simp only [u1]
      generalize u 5 = y5 at *
      generalize u 4 = y4 at *
      generalize u 3 = y3 at *
      clear hKp hI hD e7 u1 u3 i4 hBe hqs hr5 hB hown hrow gy h2 h00 hnb hX hfg hx
      go_wp2
      go_roundw
      case rel => exact ⟨k + 1, by omega, by go_num, _, _, o6, hqs2, hr52, hBs2, hB2⟩
      case measure => simp [intOf]; omega
    · have hkk : k = H.length := by omega
      subst hkk
      have hol := SlH.own (H := H) (by simpa using hown) (fun j x hj hx => by
        obtain ⟨y, b, e1, -, -, e2⟩ := hqs j x hj hx
        exact ⟨y, e1, e2.p⟩)
      have n0 := hB.cell 0 rfl 0
      have n1 := hB.cell 0 rfl 1
      have n2 := hB.cell 0 rfl 2
      have ff := fun o => hB.frozen 1 rfl o
      have p0 := hB.cell 1 rfl 0
      have p1 := hB.cell 1 rfl 1
      have p2 := hB.cell 1 rfl 2
      simp only [List.getElem?_toArray, List.getElem?_cons_zero, List.getElem?_cons_succ] at n0 n1 n2 p0 p1 p2
      obtain ⟨Ao, co, hvo⟩ : ∃ A c, vo = .slice A H.length c := by
        obtain ⟨A, c, h1, -⟩ := id hol
        exact ⟨A, c, by simpa using h1⟩
      subst hvo
      have hne1 : w.heap.size + 1 ≠ b7 := by omega
      have hap : ∀ q r : Array Value, apart (w.heap.size + 1) 1 0 ((b7, q, 34) :: (w.heap.size + 1, r, 34) :: [(w.heap.size, #[.slice Av l.length cv, .slice A H.length c], 25)]) := fun q r => ⟨.inr (by show _ ≠ _; omega), .inl rfl, .inr (by show _ ≠ _; omega), trivial⟩
      clear hk hHs hol
      have st2 := ((hB.put 1 (o := 0) (v := .int .i64 3) rfl (hap _ _) (by omega)).put 1 (o := 1) (v := .slice A5 l.length c5) rfl (hap _ _) (by omega)).put 1 (o := 2) (v := .slice Ao H.length co) rfl (hap _ _) (by omega)
      have hgr : wr.grownBy (((wr.setCell ⟨w.heap.size + 1, 0, none⟩ (.int .i64 3)).setCell ⟨w.heap.size + 1, 1, none⟩ (.slice A5 l.length c5)).setCell ⟨w.heap.size + 1, 2, none⟩ (.slice Ao H.length co)) (some (w.heap.size + 1)) :=
        ⟨rfl, rfl, rfl, by simp, fun k hk hne => (Below.heap_setCell _ _ _ _ (fun h => hne (by rw [h]))).trans ((Below.heap_setCell _ _ _ _ (fun h => hne (by rw [h]))).trans (Below.heap_setCell _ _ _ _ (fun h => hne (by rw [h]))))⟩
      have hown2 := hown.kept hgr (.inr (fun h => by have := (hown.lt _ h).1; omega))
      have sp2 := (hr5.keep' (w' := (((wr.setCell ⟨w.heap.size + 1, 0, none⟩ (.int .i64 3)).setCell ⟨w.heap.size + 1, 1, none⟩ (.slice A5 l.length c5)).setCell ⟨w.heap.size + 1, 2, none⟩ (.slice Ao H.length co))) (fun b h1 h2 h3 => hgr.block b h3 (by simp; omega))).wide (l' := w.heap.size) (h' := ((((wr.setCell ⟨w.heap.size + 1, 0, none⟩ (.int .i64 3)).setCell ⟨w.heap.size + 1, 1, none⟩ (.slice A5 l.length c5)).setCell ⟨w.heap.size + 1, 2, none⟩ (.slice Ao H.length co))).heap.size) (by omega) (by simp; omega)
      have hol2 := SlHR.own (lo := w.heap.size) (hi := ((((wr.setCell ⟨w.heap.size + 1, 0, none⟩ (.int .i64 3)).setCell ⟨w.heap.size + 1, 1, none⟩ (.slice A5 l.length c5)).setCell ⟨w.heap.size + 1, 2, none⟩ (.slice Ao H.length co))).heap.size) (H := H) (by simpa using hown2) (by omega) (Nat.le_refl _) (fun j x hj hx => by
        obtain ⟨y, b, e1, e3, e4, e2⟩ := hqs j x hj hx
        exact ⟨y, e1, (e2.keep' (fun b h1 h2 h3 => hgr.block b h3 (by simp; omega))).wide (by omega) (by simp; omega)⟩)
      clear hgr hown2 hqs hr5 hown hB hap
      go_wp2
      simp only [List.set_cons_zero, List.set_cons_succ, List.setIfInBounds_toArray] at st2
      generalize ((wr.setCell _ _).setCell _ _).setCell _ _ = w9 at *
      have t0 := st2.cell 1 rfl 0
      have t1 := st2.cell 1 rfl 1
      have t2 := st2.cell 1 rfl 2
      simp at t0 t1 t2
      exact bodyPost_ret (v := .agg #[.int .i64 3, .slice A5 l.length c5, .slice Ao H.length co]) (by simp [results, Tryz.results19, go_sem, t0, t1, t2]) rfl ⟨_, _, rfl, sp2, hol2, st2.hb⟩
end Go.Proofs.YtbeoijpdacpaaaaGreat
set_option linter.unusedSimpArgs false
set_option linter.unusedVariables false
/-! Plain: a line past a ring at a height (FnSceneCut). -/
namespace Go.Proofs.YtbeoijpdacpaaaaGreat
open Go.RowKit PF JR
theorem cnt_pair {F : Nat → Bool} {i j : Nat} : ∀ {n : Nat}, i < j → j < n → F i = true → F j = true → 2 ≤ cntN F n := by
  intro n
  induction n with
  | zero => intro _ h; omega
  | succ n ih =>
    intro hij hj fi fj
    rw [cntN]
    rcases Nat.lt_or_ge j n with h | h
    · have := ih hij h fi fj
      omega
    · obtain rfl : j = n := by omega
      rw [if_pos fj]
      have h1 := cntN_le (f := F) (k := i + 1) (n := j) (by omega)
      rw [cntN, if_pos fi] at h1
      omega
/-- the step from k on goes through h -/
def stp (f g : Nat → Int) (h : Int) (k : Nat) : Bool := decide ((f k ≤ h ∧ h ≤ g k) ∨ (g k ≤ h ∧ h ≤ f k))
section
variable {N : Nat} {f g : Nat → Int} {h : Int}
theorem way (h1 : ∀ k, k + 1 < N → g k = f (k + 1)) : ∀ n p, p + (n + 1) < N → ((f p ≤ h ∧ h ≤ f (p + (n + 1))) ∨ (f (p + (n + 1)) ≤ h ∧ h ≤ f p)) → ∃ k, p ≤ k ∧ k < p + (n + 1) ∧ stp f g h k = true := by
  intro n
  induction n with
  | zero =>
    intro p hp hh
    refine ⟨p, Nat.le_refl _, by omega, ?_⟩
    unfold stp
    rw [decide_eq_true_iff, h1 p (by omega)]
    simpa using hh
  | succ n ih =>
    intro p hp hh
    by_cases hs : stp f g h p = true
    · exact ⟨p, Nat.le_refl _, by omega, hs⟩
    · unfold stp at hs
      rw [decide_eq_true_iff, h1 p (by omega)] at hs
      rw [show p + (n + 1 + 1) = p + 1 + (n + 1) from by omega] at hh hp ⊢
      obtain ⟨k, a, b, c⟩ := ih (p + 1) hp (by omega)
      exact ⟨k, by omega, b, c⟩
theorem way' (h1 : ∀ k, k + 1 < N → g k = f (k + 1)) {p q : Nat} (hpq : p < q) (hq : q < N) (hh : (f p ≤ h ∧ h ≤ f q) ∨ (f q ≤ h ∧ h ≤ f p)) : ∃ k, p ≤ k ∧ k < q ∧ stp f g h k = true := by
  obtain ⟨n, rfl⟩ : ∃ n, q = p + (n + 1) := ⟨q - p - 1, by omega⟩
  exact way h1 n p hq hh
/-- round a ring, what lies on both sides of h goes through it twice -/
theorem twice (hN : 2 ≤ N) (h1 : ∀ k, k + 1 < N → g k = f (k + 1)) (h2 : g (N - 1) = f 0) {i j : Nat} (hi : i < N) (hj : j < N) (fi : f i ≤ h) (fj : h ≤ f j) : 2 ≤ cntN (stp f g h) N := by
  have core : ∀ p q, p < q → q < N → ((f p ≤ h ∧ h ≤ f q) ∨ (f q ≤ h ∧ h ≤ f p)) → 2 ≤ cntN (stp f g h) N := by
    intro p q hpq hq hh
    obtain ⟨k, k1, k2, k3⟩ := way' h1 hpq hq hh
    have hlast : (f (N - 1) ≤ h ∧ h ≤ f 0) ∨ (f 0 ≤ h ∧ h ≤ f (N - 1)) → 2 ≤ cntN (stp f g h) N := fun e =>
      cnt_pair (show k < N - 1 by omega) (by omega) k3 (by unfold stp; rw [decide_eq_true_iff, h2]; exact e)
    by_cases hl : (f (N - 1) ≤ h ∧ h ≤ f 0) ∨ (f 0 ≤ h ∧ h ≤ f (N - 1))
    · exact hlast hl
    -- both ends lie on one side of h: one of the two ways from there goes through it
    by_cases hp : (f 0 ≤ h ∧ h ≤ f p) ∨ (f p ≤ h ∧ h ≤ f 0)
    · by_cases h0 : p = 0
      · subst h0
        have hqn : q ≠ N - 1 := fun e => by subst e; omega
        obtain ⟨k', a, b, c⟩ := way' h1 (h := h) (p := q) (q := N - 1) (by omega) (by omega) (by omega)
        exact cnt_pair (show k < k' by omega) (by omega) k3 c
      · obtain ⟨k', a, b, c⟩ := way' h1 (p := 0) (q := p) (by omega) (by omega) hp
        exact cnt_pair (show k' < k by omega) (by omega) c k3
    · have hqn : q ≠ N - 1 := fun e => by subst e; omega
      obtain ⟨k', a, b, c⟩ := way' h1 (h := h) (p := q) (q := N - 1) (by omega) (by omega) (by omega)
      exact cnt_pair (show k < k' by omega) (by omega) k3 c
  rcases Nat.lt_trichotomy i j with e | e | e
  · exact core i j e hj (.inl ⟨fi, fj⟩)
  · subst e
    rcases Nat.eq_zero_or_pos i with e | e
    · subst e
      exact core 0 1 (by omega) (by omega) (by omega)
    · exact core 0 i e hi (by omega)
  · exact core j i e hi (.inr ⟨fi, fj⟩)
end
section
variable {l : List (Int × Int)}
theorem nx_step (h3 : 3 ≤ l.length) : 2 ≤ nSeg true l ∧ (∀ k, k + 1 < nSeg true l → nxp l k = at' l (k + 1)) ∧ nxp l (nSeg true l - 1) = at' l 0 ∧ ∀ p ∈ l, ∃ k, k < nSeg true l ∧ at' l k = p := by
  have hm : ∀ p ∈ l, ∃ k, k < l.length ∧ at' l k = p := fun p hp => by
    obtain ⟨k, hk⟩ := List.mem_iff_getElem?.1 hp
    have hkl := (List.getElem?_eq_some_iff.1 hk).1
    exact ⟨k, hkl, by have := at_get hkl; rw [hk] at this; injection this with this; exact this.symm⟩
  rcases nS h3 with e | ⟨e, e2⟩
  · rw [e]
    exact ⟨by omega, fun k hk => by unfold nxp; rw [if_neg (by omega)], by unfold nxp; rw [if_pos rfl], hm⟩
  · rw [e]
    refine ⟨by omega, fun k hk => by unfold nxp; rw [if_neg (by omega)], ?_, fun p hp => ?_⟩
    · unfold nxp
      rw [if_neg (by omega), show l.length - 1 - 1 + 1 = l.length - 1 from by omega, e2]
    · obtain ⟨k, hk, h⟩ := hm p hp
      by_cases hkl : k = l.length - 1
      · exact ⟨0, by omega, by rw [← h, hkl, e2]⟩
      · exact ⟨k, by omega, h⟩
/-- a line from left to right meets what goes through its height -/
theorem sx_hor {u v h : Int} {C D : Int × Int} (hC : u < C.1 ∧ C.1 < v) (hD : u < D.1 ∧ D.1 < v) (hh : (C.2 ≤ h ∧ h ≤ D.2) ∨ (D.2 ≤ h ∧ h ≤ C.2)) : sx u h v h C.1 C.2 D.1 D.2 = true := by
  have t1 : side u h v h C.1 C.2 = (v - u) * (C.2 - h) := by unfold side; grind
  have t2 : side u h v h D.1 D.2 = (v - u) * (D.2 - h) := by unfold side; grind
  unfold sx
  rw [if_neg (by omega), if_neg (by omega), if_neg (by omega), t1]
  split
  · rename_i e
    have e0 : C.2 - h = 0 := by
      rcases Int.mul_eq_zero.1 e with e | e <;> omega
    rw [rcOn_flat rfl (by omega) (.inl ⟨by omega, by omega⟩)]
    rfl
  · unfold meets apartB
    rw [decide_eq_true_iff, t1, t2]
    have m1 : ∀ n : Int, (0 ≤ n → 0 ≤ (v - u) * n) ∧ (n ≤ 0 → (v - u) * n ≤ 0) := fun n => ⟨fun g => Int.mul_nonneg (by omega) g, fun g => Int.mul_nonpos_of_nonneg_of_nonpos (by omega) g⟩
    obtain ⟨c1, c2⟩ := m1 (C.2 - h)
    obtain ⟨d1, d2⟩ := m1 (D.2 - h)
    rw [side_mix, side_mix]
    have z : ∀ x y : Int, (0 ≤ x → 0 ≤ y → 0 ≤ x * y) ∧ (0 ≤ x → y ≤ 0 → x * y ≤ 0) ∧ (x ≤ 0 → 0 ≤ y → x * y ≤ 0) ∧ (x ≤ 0 → y ≤ 0 → 0 ≤ x * y) := fun x y => ⟨nonneg_mul, nonpos_mul, nn_mul, npnp_mul⟩
    have a1 := z (h - C.2) (D.1 - u)
    have a2 := z (D.2 - h) (C.1 - u)
    have a3 := z (h - C.2) (D.1 - v)
    have a4 := z (D.2 - h) (C.1 - v)
    rcases hh with ⟨g1, g2⟩ | ⟨g1, g2⟩
    · have b1 := a1.1 (by omega) (by omega)
      have b2 := a2.1 (by omega) (by omega)
      have b3 := a3.2.1 (by omega) (by omega)
      have b4 := a4.2.1 (by omega) (by omega)
      exact ⟨.inl ⟨c2 (by omega), d1 (by omega)⟩, by omega⟩
    · have b1 := a1.2.2.1 (by omega) (by omega)
      have b2 := a2.2.2.1 (by omega) (by omega)
      have b3 := a3.2.2.2 (by omega) (by omega)
      have b4 := a4.2.2.2 (by omega) (by omega)
      exact ⟨.inr ⟨d2 (by omega), c1 (by omega)⟩, by omega⟩
theorem sx_ver {u v h : Int} {C D : Int × Int} (hC : u < C.2 ∧ C.2 < v) (hD : u < D.2 ∧ D.2 < v) (hh : (C.1 ≤ h ∧ h ≤ D.1) ∨ (D.1 ≤ h ∧ h ≤ C.1)) : sx h u h v C.1 C.2 D.1 D.2 = true := by
  have t1 : side h u h v C.1 C.2 = -((v - u) * (C.1 - h)) := by unfold side; grind
  have t2 : side h u h v D.1 D.2 = -((v - u) * (D.1 - h)) := by unfold side; grind
  unfold sx
  rw [if_neg (by omega), if_neg (by omega), if_neg (by omega), t1]
  split
  · rename_i e
    have e0 : C.1 - h = 0 := by
      rcases Int.mul_eq_zero.1 (show (v - u) * (C.1 - h) = 0 by omega) with e | e <;> omega
    rw [rcOn_up (by omega) (by omega) (by omega) (by rw [e0]; simp)]
    rfl
  · unfold meets apartB
    rw [decide_eq_true_iff, t1, t2]
    have m1 : ∀ n : Int, (0 ≤ n → 0 ≤ (v - u) * n) ∧ (n ≤ 0 → (v - u) * n ≤ 0) := fun n => ⟨fun g => Int.mul_nonneg (by omega) g, fun g => Int.mul_nonpos_of_nonneg_of_nonpos (by omega) g⟩
    obtain ⟨c1, c2⟩ := m1 (C.1 - h)
    obtain ⟨d1, d2⟩ := m1 (D.1 - h)
    have s1 : side C.1 C.2 D.1 D.2 h u = -((h - C.1) * (D.2 - u) + (D.1 - h) * (C.2 - u)) := by unfold side; grind
    have s2 : side C.1 C.2 D.1 D.2 h v = -((h - C.1) * (D.2 - v) + (D.1 - h) * (C.2 - v)) := by unfold side; grind
    rw [s1, s2]
    have z : ∀ x y : Int, (0 ≤ x → 0 ≤ y → 0 ≤ x * y) ∧ (0 ≤ x → y ≤ 0 → x * y ≤ 0) ∧ (x ≤ 0 → 0 ≤ y → x * y ≤ 0) ∧ (x ≤ 0 → y ≤ 0 → 0 ≤ x * y) := fun x y => ⟨nonneg_mul, nonpos_mul, nn_mul, npnp_mul⟩
    have a1 := z (h - C.1) (D.2 - u)
    have a2 := z (D.1 - h) (C.2 - u)
    have a3 := z (h - C.1) (D.2 - v)
    have a4 := z (D.1 - h) (C.2 - v)
    rcases hh with ⟨g1, g2⟩ | ⟨g1, g2⟩
    · have b1 := a1.1 (by omega) (by omega)
      have b2 := a2.1 (by omega) (by omega)
      have b3 := a3.2.1 (by omega) (by omega)
      have b4 := a4.2.1 (by omega) (by omega)
      have := c2 (by omega)
      have := d1 (by omega)
      exact ⟨by omega, by omega⟩
    · have b1 := a1.2.2.1 (by omega) (by omega)
      have b2 := a2.2.2.1 (by omega) (by omega)
      have b3 := a3.2.2.2 (by omega) (by omega)
      have b4 := a4.2.2.2 (by omega) (by omega)
      have := c1 (by omega)
      have := d2 (by omega)
      exact ⟨by omega, by omega⟩
/-- **a line past a ring, at a height** -/
theorem cut_hor (h3 : 3 ≤ l.length) (h : Int) : polLV l [] [((box l).1 - 1, h), ((box l).2.2.1 + 1, h)] = decide ((box l).2.1 ≤ h ∧ h ≤ (box l).2.2.2) := by
  obtain ⟨hb, ⟨p1, m1, e1⟩, ⟨p2, m2, e2⟩, ⟨p3, m3, e3⟩, ⟨p4, m4, e4⟩⟩ := box_spec l (by omega)
  obtain ⟨n2, n1, n0, nm⟩ := nx_step h3
  have hx : (box l).1 ≤ (box l).2.2.1 := by have := hb p1 m1; omega
  have hy : (box l).2.1 ≤ (box l).2.2.2 := by have := hb p1 m1; omega
  have hat : ∀ k, k < l.length → at' l k ∈ l := fun k hk => List.mem_of_getElem? (at_get hk)
  have hnl : nSeg true l ≤ l.length := by
    rcases nS h3 with e | ⟨e, -⟩ <;> omega
  have hnx : ∀ k, k < nSeg true l → nxp l k ∈ l := fun k hk => by
    obtain ⟨j, hj, e⟩ := nxp_mem (l := l) (k := k) (by omega)
    rw [e]; exact hat j hj
  generalize hx0 : (box l).1 = x0 at *
  generalize hy0 : (box l).2.1 = y0 at *
  generalize hx1 : (box l).2.2.1 = x1 at *
  generalize hy1 : (box l).2.2.2 = y1 at *
  have hbx : ppB true l = (x0, y0, x1, y1) := by rw [ppB_3 h3, ← hx0, ← hy0, ← hx1, ← hy1]
  have hmx : ppB false [(x0 - 1, h), (x1 + 1, h)] = (x0 - 1, h, x1 + 1, h) := by
    unfold ppB tooS
    rw [if_neg (by simp)]
    simp [box, bxs, at', Prod.mk.injEq]
    omega
  have hA : ringHas l (x0 - 1, h) true = false := by
    unfold ringHas
    rw [hbx, show inB (x0, y0, x1, y1) (x0 - 1, h) = false from decide_eq_false (by simp only; omega)]
    rfl
  have hB : ringHas l (x1 + 1, h) true = false := by
    unfold ringHas
    rw [hbx, show inB (x0, y0, x1, y1) (x1 + 1, h) = false from decide_eq_false (by simp only; omega)]
    rfl
  have hlen : [(x0 - 1, h), (x1 + 1, h)].length = 2 := rfl
  unfold polLV rilV
  rw [hbx, hmx, hlen]
  show (bmB (x0, y0, x1, y1) (x0 - 1, h, x1 + 1, h) && (((false || ringHas l (x0 - 1, h) true) || ringHas l (x1 + 1, h) true) || (false || risV l [(x0 - 1, h), (x1 + 1, h)] 0)) && !false) = _
  rw [hA, hB]
  simp only [Bool.false_or, Bool.not_false, Bool.and_true]
  by_cases hh : y0 ≤ h ∧ h ≤ y1
  · rw [decide_eq_true hh, show bmB (x0, y0, x1, y1) (x0 - 1, h, x1 + 1, h) = true from decide_eq_true (by simp only; omega), Bool.true_and]
    obtain ⟨i, hi, ei⟩ := nm p2 m2
    obtain ⟨j, hj, ej⟩ := nm p4 m4
    have hc := twice (f := fun k => (at' l k).2) (g := fun k => (nxp l k).2) (h := h) n2 (fun k hk => by rw [n1 k hk]) (by rw [n0]) hi hj (by rw [ei]; omega) (by rw [ej]; omega)
    have hle : ∀ n, n ≤ nSeg true l → cntN (stp (fun k => (at' l k).2) (fun k => (nxp l k).2) h) n ≤ cntN (sxs [(x0 - 1, h), (x1 + 1, h)] 0 l) n := by
      intro n
      induction n with
      | zero => intro _; exact Nat.le_refl _
      | succ n ih =>
        intro hn
        rw [cntN, cntN]
        have := ih (by omega)
        by_cases hs : stp (fun k => (at' l k).2) (fun k => (nxp l k).2) h n = true
        · have hs' := hs
          unfold stp at hs'
          have hs' := of_decide_eq_true hs'
          have q1 := hb _ (hat n (by omega))
          have q2 := hb _ (hnx n (by omega))
          have : sxs [(x0 - 1, h), (x1 + 1, h)] 0 l n = true := sx_hor (u := x0 - 1) (v := x1 + 1) (h := h) (C := at' l n) (D := nxp l n) (by omega) (by omega) hs'
          rw [if_pos hs, if_pos this]
          omega
        · rw [if_neg hs]
          omega
    have hc2 := hle _ (Nat.le_refl _)
    unfold risV
    rw [hbx]
    show (bmB (min (x0 - 1) (x1 + 1), min h h, max (x0 - 1) (x1 + 1), max h h) (x0, y0, x1, y1) && (ringHas l (x0 - 1, h) true || ringHas l (x1 + 1, h) true || decide (2 ≤ cntN (sxs [(x0 - 1, h), (x1 + 1, h)] 0 l) (nSeg true l)))) = true
    rw [hA, hB, decide_eq_true (by omega : 2 ≤ cntN (sxs [(x0 - 1, h), (x1 + 1, h)] 0 l) (nSeg true l)), show bmB (min (x0 - 1) (x1 + 1), min h h, max (x0 - 1) (x1 + 1), max h h) (x0, y0, x1, y1) = true from decide_eq_true (by simp only; omega)]
    rfl
  · rw [decide_eq_false hh, show bmB (x0, y0, x1, y1) (x0 - 1, h, x1 + 1, h) = false from decide_eq_false (by simp only; omega), Bool.false_and]
/-- **a line past a ring, upright** -/
theorem cut_ver (h3 : 3 ≤ l.length) (h : Int) : polLV l [] [(h, (box l).2.1 - 1), (h, (box l).2.2.2 + 1)] = decide ((box l).1 ≤ h ∧ h ≤ (box l).2.2.1) := by
  obtain ⟨hb, ⟨p1, m1, e1⟩, ⟨p2, m2, e2⟩, ⟨p3, m3, e3⟩, ⟨p4, m4, e4⟩⟩ := box_spec l (by omega)
  obtain ⟨n2, n1, n0, nm⟩ := nx_step h3
  have hx : (box l).1 ≤ (box l).2.2.1 := by have := hb p1 m1; omega
  have hy : (box l).2.1 ≤ (box l).2.2.2 := by have := hb p1 m1; omega
  have hat : ∀ k, k < l.length → at' l k ∈ l := fun k hk => List.mem_of_getElem? (at_get hk)
  have hnl : nSeg true l ≤ l.length := by
    rcases nS h3 with e | ⟨e, -⟩ <;> omega
  have hnx : ∀ k, k < nSeg true l → nxp l k ∈ l := fun k hk => by
    obtain ⟨j, hj, e⟩ := nxp_mem (l := l) (k := k) (by omega)
    rw [e]; exact hat j hj
  generalize hx0 : (box l).1 = x0 at *
  generalize hy0 : (box l).2.1 = y0 at *
  generalize hx1 : (box l).2.2.1 = x1 at *
  generalize hy1 : (box l).2.2.2 = y1 at *
  have hbx : ppB true l = (x0, y0, x1, y1) := by rw [ppB_3 h3, ← hx0, ← hy0, ← hx1, ← hy1]
  have hmx : ppB false [(h, y0 - 1), (h, y1 + 1)] = (h, y0 - 1, h, y1 + 1) := by
    unfold ppB tooS
    rw [if_neg (by simp)]
    simp [box, bxs, at', Prod.mk.injEq]
    omega
  have hA : ringHas l (h, y0 - 1) true = false := by
    unfold ringHas
    rw [hbx, show inB (x0, y0, x1, y1) (h, y0 - 1) = false from decide_eq_false (by simp only; omega)]
    rfl
  have hB : ringHas l (h, y1 + 1) true = false := by
    unfold ringHas
    rw [hbx, show inB (x0, y0, x1, y1) (h, y1 + 1) = false from decide_eq_false (by simp only; omega)]
    rfl
  have hlen : [(h, y0 - 1), (h, y1 + 1)].length = 2 := rfl
  unfold polLV rilV
  rw [hbx, hmx, hlen]
  show (bmB (x0, y0, x1, y1) (h, y0 - 1, h, y1 + 1) && (((false || ringHas l (h, y0 - 1) true) || ringHas l (h, y1 + 1) true) || (false || risV l [(h, y0 - 1), (h, y1 + 1)] 0)) && !false) = _
  rw [hA, hB]
  simp only [Bool.false_or, Bool.not_false, Bool.and_true]
  by_cases hh : x0 ≤ h ∧ h ≤ x1
  · rw [decide_eq_true hh, show bmB (x0, y0, x1, y1) (h, y0 - 1, h, y1 + 1) = true from decide_eq_true (by simp only; omega), Bool.true_and]
    obtain ⟨i, hi, ei⟩ := nm p1 m1
    obtain ⟨j, hj, ej⟩ := nm p3 m3
    have hc := twice (f := fun k => (at' l k).1) (g := fun k => (nxp l k).1) (h := h) n2 (fun k hk => by rw [n1 k hk]) (by rw [n0]) hi hj (by rw [ei]; omega) (by rw [ej]; omega)
    have hle : ∀ n, n ≤ nSeg true l → cntN (stp (fun k => (at' l k).1) (fun k => (nxp l k).1) h) n ≤ cntN (sxs [(h, y0 - 1), (h, y1 + 1)] 0 l) n := by
      intro n
      induction n with
      | zero => intro _; exact Nat.le_refl _
      | succ n ih =>
        intro hn
        rw [cntN, cntN]
        have := ih (by omega)
        by_cases hs : stp (fun k => (at' l k).1) (fun k => (nxp l k).1) h n = true
        · have hs' := hs
          unfold stp at hs'
          have hs' := of_decide_eq_true hs'
          have q1 := hb _ (hat n (by omega))
          have q2 := hb _ (hnx n (by omega))
          have : sxs [(h, y0 - 1), (h, y1 + 1)] 0 l n = true := sx_ver (u := y0 - 1) (v := y1 + 1) (h := h) (C := at' l n) (D := nxp l n) (by omega) (by omega) hs'
          rw [if_pos hs, if_pos this]
          omega
        · rw [if_neg hs]
          omega
    have hc2 := hle _ (Nat.le_refl _)
    unfold risV
    rw [hbx]
    show (bmB (min h h, min (y0 - 1) (y1 + 1), max h h, max (y0 - 1) (y1 + 1)) (x0, y0, x1, y1) && (ringHas l (h, y0 - 1) true || ringHas l (h, y1 + 1) true || decide (2 ≤ cntN (sxs [(h, y0 - 1), (h, y1 + 1)] 0 l) (nSeg true l)))) = true
    rw [hA, hB, decide_eq_true (by omega : 2 ≤ cntN (sxs [(h, y0 - 1), (h, y1 + 1)] 0 l) (nSeg true l)), show bmB (min h h, min (y0 - 1) (y1 + 1), max h h, max (y0 - 1) (y1 + 1)) (x0, y0, x1, y1) = true from decide_eq_true (by simp only; omega)]
    rfl
  · rw [decide_eq_false hh, show bmB (x0, y0, x1, y1) (h, y0 - 1, h, y1 + 1) = false from decide_eq_false (by simp only; omega), Bool.false_and]
end
end Go.Proofs.YtbeoijpdacpaaaaGreat
set_option linter.unusedSimpArgs false
set_option linter.unusedVariables false
/-! FnSceneAround: the walk (printed by gen/yo.py). -/
namespace Go.Proofs.YtbeoijpdacpaaaaGreat
open Go Go.RowKit PF JR
theorem bxn_spec (l : List (Int × Int)) (h : 0 < l.length) : ∀ n, n ≤ l.length → ((∀ j, j < n ∨ j = 0 → (bxn l n).1 ≤ (at' l j).1 ∧ (bxn l n).2.1 ≤ (at' l j).2 ∧ (at' l j).1 ≤ (bxn l n).2.2.1 ∧ (at' l j).2 ≤ (bxn l n).2.2.2) ∧ (∃ p ∈ l, p.1 = (bxn l n).1) ∧ (∃ p ∈ l, p.2 = (bxn l n).2.1) ∧ (∃ p ∈ l, p.1 = (bxn l n).2.2.1) ∧ (∃ p ∈ l, p.2 = (bxn l n).2.2.2)) := by
  have m : ∀ j, j < l.length → at' l j ∈ l := fun j hj => List.mem_of_getElem? (at_get hj)
  intro n
  induction n with
  | zero =>
    intro _
    refine ⟨fun j hj => ?_, ⟨_, m 0 h, rfl⟩, ⟨_, m 0 h, rfl⟩, ⟨_, m 0 h, rfl⟩, ⟨_, m 0 h, rfl⟩⟩
    obtain rfl : j = 0 := by omega
    unfold bxn; simp
  | succ n ih =>
    intro hn
    obtain ⟨h1, ⟨p1, q1, r1⟩, ⟨p2, q2, r2⟩, ⟨p3, q3, r3⟩, ⟨p4, q4, r4⟩⟩ := ih (by omega)
    have mn := m n (by omega)
    rw [show bxn l (n + 1) = bxp (bxn l n) (at' l n) from rfl]
    generalize bxn l n = b at *
    obtain ⟨b0, b1, b2, b3⟩ := b
    unfold bxp
    simp only at *
    refine ⟨fun j hj => ?_, ?_, ?_, ?_, ?_⟩
    · by_cases hjn : j = n
      · subst hjn
        have := h1 0 (.inr rfl)
        split <;> split <;> split <;> split <;> omega
      · have := h1 j (by omega)
        split <;> split <;> split <;> split <;> omega
    · split
      · exact ⟨_, mn, rfl⟩
      · exact ⟨_, q1, r1⟩
    · split
      · exact ⟨_, mn, rfl⟩
      · exact ⟨_, q2, r2⟩
    · split
      · exact ⟨_, mn, rfl⟩
      · exact ⟨_, q3, r3⟩
    · split
      · exact ⟨_, mn, rfl⟩
      · exact ⟨_, q4, r4⟩
theorem bxn_box (l : List (Int × Int)) (h : 0 < l.length) : bxn l l.length = box l := by
  obtain ⟨h1, ⟨p1, q1, r1⟩, ⟨p2, q2, r2⟩, ⟨p3, q3, r3⟩, ⟨p4, q4, r4⟩⟩ := bxn_spec l h l.length (Nat.le_refl _)
  obtain ⟨g1, ⟨s1, t1, u1⟩, ⟨s2, t2, u2⟩, ⟨s3, t3, u3⟩, ⟨s4, t4, u4⟩⟩ := box_spec l h
  have hm : ∀ p ∈ l, (bxn l l.length).1 ≤ p.1 ∧ (bxn l l.length).2.1 ≤ p.2 ∧ p.1 ≤ (bxn l l.length).2.2.1 ∧ p.2 ≤ (bxn l l.length).2.2.2 := fun p hp => by
    obtain ⟨j, hj, e⟩ := List.mem_iff_getElem.1 hp
    have := h1 j (.inl hj)
    rwa [show at' l j = p by unfold at'; rw [List.getD_eq_getElem?_getD, List.getElem?_eq_getElem hj, e]; rfl] at this
  have a1 := g1 p1 q1; have a2 := g1 p2 q2; have a3 := g1 p3 q3; have a4 := g1 p4 q4
  have b1 := hm s1 t1; have b2 := hm s2 t2; have b3 := hm s3 t3; have b4 := hm s4 t4
  refine Prod.ext ?_ (Prod.ext ?_ (Prod.ext ?_ ?_)) <;> omega
theorem box_le (l : List (Int × Int)) (h : 0 < l.length) : (box l).1 ≤ (box l).2.2.1 ∧ (box l).2.1 ≤ (box l).2.2.2 := by
  obtain ⟨g1, ⟨s1, t1, u1⟩, -⟩ := box_spec l h
  have := g1 s1 t1
  omega
/-- what IsScenePolygon lets in -/
theorem scp_facts {l : List (Int × Int)} {H : List (List (Int × Int))} (h : scpB l H = true) : (3 ≤ l.length ∧ l.length ≤ 12 ∧ ∀ p ∈ l, okS p = true) ∧ H.length ≤ 2 ∧ ∀ x ∈ H, 3 ≤ x.length ∧ x.length ≤ 6 ∧ ∀ p ∈ x, okS p = true := by
  unfold scpB at h
  simp only [Bool.and_eq_true, decide_eq_true_eq, Bool.not_eq_true'] at h
  obtain ⟨h1, h2, h3⟩ := h
  refine ⟨sim_bs h1, h2, fun x hx => ?_⟩
  obtain ⟨j, hj, e⟩ := List.mem_iff_getElem.1 hx
  have h4 := anyN_pre h3 hj
  have e2 : H.getD j [] = x := by rw [List.getD_eq_getElem?_getD, List.getElem?_eq_getElem hj, e]; rfl
  unfold scBad at h4
  rw [e2] at h4
  simp only [Bool.or_eq_false_iff, decide_eq_false_iff_not, Bool.not_eq_false'] at h4
  obtain ⟨g1, g2, g3⟩ := sim_bs h4.2.1
  exact ⟨g1, by omega, g3⟩
theorem okS_3 {p : Int × Int} (h : okS p = true) : Bn3 p := by
  have := of_decide_eq_true h
  unfold Bn3; omega
theorem scp_ok {l : List (Int × Int)} {H : List (List (Int × Int))} (h : scpB l H = true) : ShOk 3 l H := by
  obtain ⟨⟨h1, h2, h3⟩, h4, h5⟩ := scp_facts h
  refine ⟨fun p hp => okS_3 (h3 p hp), by omega, fun x hx => ?_, .inr (.inr (.inr ⟨rfl, h1, h2⟩))⟩
  obtain ⟨g1, g2, g3⟩ := h5 x hx
  exact ⟨g1, by omega, fun p hp => okS_3 (g3 p hp)⟩
end Go.Proofs.YtbeoijpdacpaaaaGreat
set_option linter.unusedSimpArgs false
set_option linter.unusedVariables false
/-! Contains is false where the inner box is not within the ring's box (printed by gen/yw.py). -/
namespace Go.Proofs.YtbeoijpdacpaaaaGreat
open Go.RowKit PF JR
set_option maxRecDepth 100000 in
set_option maxHeartbeats 8000000 in
theorem rcrN_c {f1 f2 : RF} {T1 T2 : TypeId} {y1 y2 : Value} {cl : Bool} {l m : List (Int × Int)} {w : World} (H1 : RingM f1 T1 y1 true l w) (H2 : RingM f2 T2 y2 cl m w) (hbl : BdR (ppB true l)) (hbm : BdR (ppB cl m)) (hno : decide ((ppB true l).1 ≤ (ppB cl m).1 ∧ (ppB cl m).2.2.1 ≤ (ppB true l).2.2.1 ∧ (ppB true l).2.1 ≤ (ppB cl m).2.1 ∧ (ppB cl m).2.2.2 ≤ (ppB true l).2.2.2) = false) :
    Calls Tryz.prog 178 #[.iface T1 y1, .iface T2 y2, .bool true] w fun e w' => e = .returned (.bool false) ∧ Below w.heap.size w w' := by
  obtain ⟨x1, x2, x3, x4⟩ := hbl
  obtain ⟨x5, x6, x7, x8⟩ := hbm
  have hrir := fun u => rcr_c (fb_rep (ppB true l).1 (by omega)) (fb_rep (ppB true l).2.1 (by omega)) (fb_rep (ppB true l).2.2.1 (by omega)) (fb_rep (ppB true l).2.2.2 (by omega)) (fb_rep (ppB cl m).1 (by omega)) (fb_rep (ppB cl m).2.1 (by omega)) (fb_rep (ppB cl m).2.2.1 (by omega)) (fb_rep (ppB cl m).2.2.2 (by omega)) u
  rw [hno] at hrir
  have hbm := hno
  clear hno
  clear hbm x1 x2 x3 x4 x5 x6 x7 x8
  have hc1 := H1.crect
  have hc2 := H2.crect
  have he1 := H1.cempty
  have he2 := H2.cempty
  have hn2 := H2.cnpts
  have hm12 := H2.len
  obtain ⟨mr1, er1⟩ := H1.mrect
  obtain ⟨mr2, er2⟩ := H2.mrect
  obtain ⟨me1, ee1⟩ := H1.mempty
  obtain ⟨me2, ee2⟩ := H2.mempty
  obtain ⟨mn2, en2⟩ := H2.mnpts
  generalize ga : (Value.agg #[fl (fb (ppB true l).1), fl (fb (ppB true l).2.1), fl (fb (ppB true l).2.2.1), fl (fb (ppB true l).2.2.2)]) = RA at *
  generalize gb : (Value.agg #[fl (fb (ppB cl m).1), fl (fb (ppB cl m).2.1), fl (fb (ppB cl m).2.2.1), fl (fb (ppB cl m).2.2.2)]) = RB at *
  clear ga gb
  generalize m.length = n1 at *
  have hd16 : ¬ (n1 : Int) ≥ 16 := by omega
  have hd16' := decide_eq_false hd16
  have B0 := Below.refl w.heap.size w
  go_enter Tryz.func178, Tryz.ntmps178
  go_wp2_with (with_reducible refine stopC f1.empty ?_)
  refine ⟨?_⟩
  refine (he1 _ B0).mono ?_
  rintro e w1 ⟨rfl, hb⟩
  have B1 := B0.trans (hb.mono B0.size)
  clear hb B0 he1
  go_wp2_with (with_reducible refine stopC f2.empty ?_)
  refine ⟨?_⟩
  refine (he2 _ B1).mono ?_
  rintro e w2 ⟨rfl, hb⟩
  have B2 := B1.trans (hb.mono B1.size)
  clear hb B1 he2
  go_wp2_with (with_reducible refine stopC f2.npts ?_)
  refine ⟨?_⟩
  refine (hn2 _ B2).mono ?_
  rintro e w3 ⟨rfl, hb⟩
  have B3 := B2.trans (hb.mono B2.size)
  clear hb B2
  go_wp2_with (with_reducible refine stopC f1.rect ?_)
  refine ⟨?_⟩
  refine (hc1 _ B3).mono ?_
  rintro e w4 ⟨rfl, hb⟩
  have B4 := B3.trans (hb.mono B3.size)
  clear hb B3 hc1
  go_wp2_with (with_reducible refine stopC f2.rect ?_)
  refine ⟨?_⟩
  refine (hc2 _ B4).mono ?_
  rintro e w5 ⟨rfl, hb⟩
  have B5 := B4.trans (hb.mono B4.size)
  clear hb B4 hc2
  go_wp2_with (go_at_call 158; refine JR.StopM.out ?_)
  refine ⟨?_⟩
  refine (hrir _).mono ?_
  rintro e w6 ⟨rfl, hb⟩
  have B6 := B5.trans (hb.mono B5.size)
  clear hb B5 hrir
  go_wp2
  go_ret
  exact ⟨rfl, B6⟩
/-- ringContainsLine -/
theorem rclN_c {f : RF} {T : TypeId} {y : Value} {l m : List (Int × Int)} {w : World} (R : RG f T y l w) (hno : bcB (ppB true l) (ppB false m) = false) (K : Nat) (hK : K = 0) (hm12 : m.length ≤ 12) (hm2 : 2 ≤ m.length) (hm : ∀ p ∈ m, Bn3 p) (lo c : Nat) (S : SkP K false m 115 lo w.heap.size c w) (u : World) (hu : Below w.heap.size w u) :
    Calls Tryz.prog 199 #[.iface T y, .pointer (some ⟨c, 0, none⟩), .bool true] u fun e w' => e = .returned (.bool false) ∧ Below u.heap.size u w' := by
  have hq := rcrN_c (R.r.below hu) (bsRing K hK (cl := false) hm12 hm2 (fun h => (nomatch h)) (fun p hp => (hm p hp).b) ((S.below hu).wide (Nat.le_refl _) hu.size)) R.bx (ppBF_bd hm2 (fun p hp => (hm p hp).b)) hno
  go_enter Tryz.func199, Tryz.ntmps199
  go_wp2_with (go_at_call 178; refine JR.StopM.out ?_)
  refine ⟨?_⟩
  refine hq.mono ?_
  rintro e w1 ⟨rfl, hb⟩
  go_wp2
  go_ret
  exact ⟨rfl, hb⟩
set_option maxRecDepth 100000 in
set_option maxHeartbeats 8000000 in
theorem pclN_c {n1 : Nat} {l m : List (Int × Int)} {H : List (List (Int × Int))} {w : World} (P1 : PolM n1 l H w) (hno : bcB (ppB true l) (ppB false m) = false) (K : Nat) (hK : K = 0) (hm12 : m.length ≤ 12) (hm2 : 2 ≤ m.length) (hm : ∀ p ∈ m, Bn3 p) (lo c : Nat) (S : SkP K false m 115 lo w.heap.size c w) :
    Calls Tryz.prog 201 #[.pointer (some ⟨n1, 0, none⟩), .pointer (some ⟨c, 0, none⟩)] w fun e w' => e = .returned (.bool false) ∧ Below w.heap.size w w' := by
  obtain ⟨f1, T1, y1, A1, c1, hn1, R1, H1, l1⟩ := P1
  have x0 := cellAt hn1 0
  simp only [List.getElem?_toArray, List.getElem?_cons_zero, List.getElem?_cons_succ, List.length_nil] at x0 hn1
  have hrir := fun u hu => rclN_c R1 hno K hK hm12 hm2 hm lo c S u hu
  clear H1 S
  have B0 := Below.refl w.heap.size w
  go_enter Tryz.func201, Tryz.ntmps201
  go_wp2_with (go_at_call 199; refine JR.StopM.out ?_)
  refine ⟨?_⟩
  refine (hrir _ B0).mono ?_
  rintro e w1 ⟨rfl, hb⟩
  have BB := B0.trans (hb.mono B0.size)
  clear hb B0 hrir x0
  go_wp2
  go_ret
  exact ⟨rfl, BB⟩
/-- a polygon, asked about lines that are not within its box -/
theorem yShcN {K : Nat} (hK : K = 0) {n0 : Nat} {l : List (Int × Int)} {H : List (List (Int × Int))} {w : World} (S0 : PolS n0 l H w) : ShcM K yC 92 (.pointer (some ⟨n0, 0, none⟩)) (fun p => polHas l H p) (fun a b c d => rchV l true (rl a b c d)) (fun m => false) (fun m _ => rchV l true m) (fun _ _ _ _ => False) (fun m => bcB (ppB true l) (ppB false m) = false) (fun _ _ => False) w where
  mpt := ⟨fun _ _ => by kernel_rfl, fun _ _ => by kernel_rfl⟩
  mrc := ⟨fun _ _ => by kernel_rfl, fun _ _ => by kernel_rfl⟩
  mln := ⟨fun _ _ => by kernel_rfl, fun _ _ => by kernel_rfl⟩
  mpl := ⟨fun _ _ => by kernel_rfl, fun _ _ => by kernel_rfl⟩
  npt := fun _ => by kernel_rfl
  nrc := fun _ => by kernel_rfl
  nln := fun _ => by kernel_rfl
  npl := fun _ => by kernel_rfl
  cpt := fun p hp u hu => S0.cpt hp u hu
  crc := fun _ _ _ _ h => h.elim
  cln := fun m ho hm c lo u hu S => pclN_c (S0.p.below hu) ho K hK hm.2.1 hm.1 hm.2.2 lo c S
  cpl := fun _ _ _ _ h => h.elim
def hdN (l : List (Int × Int)) (H : List (List (Int × Int))) (J : Int) (m : List (Int × Int)) (G : List (List (Int × Int))) : Bool := byK J m G (fun p => polHas l H p) (fun a b c d => rchV l true (rl a b c d)) (fun _ => false) (fun m _ => rchV l true m)
theorem hdN2 {l m : List (Int × Int)} {H G : List (List (Int × Int))} : hdN l H 2 m G = false := by
  unfold hdN byK
  rfl
/-- impl.Ask of a polygon and a line that is not within its box -/
theorem ask_cut {X : Nat} (hX : X = 0) (l : List (Int × Int)) (H : List (List (Int × Int))) (h : ShOk 3 l H) (m : List (Int × Int)) (hno : bcB (ppB true l) (ppB false m) = false) (hJ : ShOk 2 m []) (va vha vb vhb : Value) (w : World)
    (hva : SlP w va l) (hvha : SlH w vha H) (hvb : SlP w vb m) (hvhb : SlH w vhb []) :
    Calls Tryz.prog 21 #[.agg #[.int .i64 3, va, vha], .agg #[.int .i64 2, vb, vhb], .int .i64 X, .int .i64 0] w fun e w' => e = .returned (.tuple #[.bool (hdN l H 2 m []), .bool (mtV 3 l H 2 m [])]) ∧ Below w.heap.size w w' := by
  obtain ⟨hb, h3, hG, hK⟩ := h
  obtain ⟨A0, n0, c0, rfl⟩ : ∃ A n c, va = .slice A n c := by obtain ⟨A, c, h, -⟩ := hva; exact ⟨A, _, c, h⟩
  obtain ⟨A3, n3, c3, rfl⟩ : ∃ A n c, vha = .slice A n c := by obtain ⟨A, c, h, -⟩ := hvha; exact ⟨A, _, c, h⟩
  rcases hK with ⟨h, -⟩ | ⟨h, -⟩ | ⟨h, -⟩ | ⟨-, h1, h2⟩
  · cases h
  · cases h
  · cases h
  · rw [show hdN l H 2 m [] = _ from rfl, show mtV 3 _ H 2 m [] = _ from (if_neg (by decide)).trans ((if_neg (by decide)).trans (if_neg (by decide)))]
    refine (ask_any hX 3 A0 A3 n0 c0 n3 c3 (OR := fun _ _ _ _ => False) (OL := fun m => bcB (ppB true l) (ppB false m) = false) (OP := fun _ _ => False) (g := yF) (h := yC) (T := 92) (fun u ob hu ho => (shapedKH_c X hX l H (okRn.k ⟨h1, h2, hb⟩) (fun x hx => (hG x hx).k) (by omega) ob _ _ u ho (hva.below hu) (hvha.below hu)).mono ?_) 2 m [] hJ (fun _ _ _ _ h _ => by cases h) (fun _ => hno) (fun h => by cases h) vb vhb hvb hvhb)
    rintro e u' ⟨n, rfl, hS, hb'⟩
    exact ⟨_, rfl, yShp hX ⟨⟨X, _, hX, hS⟩, ⟨h1, h2, hb⟩, hG, by omega⟩, yShcN hX ⟨⟨X, _, hX, hS⟩, ⟨h1, h2, hb⟩, hG, by omega⟩, hb'⟩
end Go.Proofs.YtbeoijpdacpaaaaGreat
set_option linter.unusedSimpArgs false
set_option linter.unusedVariables false
/-! FnSceneCut: the walk (printed by gen/yq.py). -/
namespace JR
open Go Go.RowKit
section
variable {P : Program} {ops : Array Oper} {Q : Exit → Act → World → Prop} {G : World → Prop} {B0 : Nat} {plan : List Ent} {a0 : Act} {i : Nat} {o : Oper} {ns : List Need}
/-- a guarded operation, its guard not known -/
theorem gq {x : Value} {k t : Nat} {b c : Bool} (hg : o.guard = some (k, b)) (hd : (ops[k]?).bind (·.dst) = some t) (hp : plan.getD k .any = .val (.bool c))
    (h : c = b → ∀ a w, G w → facts plan a0 a w (.frm k t :: ns) → (execOp a.eval o).run P w = .ok (.value x) w) : OpOk P ops Q G B0 plan a0 i o (.val (if c = b then x else undef)) (.frm k t :: ns) := by
  by_cases hc : c = b
  · rw [if_pos hc]
    exact qt hg hd (hc ▸ hp) (h hc)
  · rw [if_neg hc]
    exact sk hg hd (by rw [hp]; cases b <;> cases c <;> first | rfl | exact absurd rfl hc)
end
end JR
namespace Go.Proofs.YtbeoijpdacpaaaaGreat
open Go Go.RowKit PF JR
theorem box_in500 (l : List (Int × Int)) (h : 0 < l.length) (hok : ∀ p ∈ l, okS p = true) : -500 ≤ (box l).1 ∧ (box l).1 ≤ (box l).2.2.1 ∧ (box l).2.2.1 ≤ 500 ∧ -500 ≤ (box l).2.1 ∧ (box l).2.1 ≤ (box l).2.2.2 ∧ (box l).2.2.2 ≤ 500 := by
  have g := box_le l h
  obtain ⟨-, ⟨s1, t1, u1⟩, ⟨s2, t2, u2⟩, ⟨s3, t3, u3⟩, ⟨s4, t4, u4⟩⟩ := box_spec l h
  have a1 := of_decide_eq_true (hok _ t1)
  have a2 := of_decide_eq_true (hok _ t2)
  have a3 := of_decide_eq_true (hok _ t3)
  have a4 := of_decide_eq_true (hok _ t4)
  omega
theorem slp_two {u : World} {pb : Nat} {a b c d : Int} (h0 : u.cell? ⟨pb, 0, none⟩ = some (.int .i64 a)) (h1 : u.cell? ⟨pb, 1, none⟩ = some (.int .i64 b)) (h2 : u.cell? ⟨pb, 2, none⟩ = some (.int .i64 c)) (h3 : u.cell? ⟨pb, 3, none⟩ = some (.int .i64 d)) : SlP u (.slice (some ⟨pb, 0, none⟩) 2 2) [(a, b), (c, d)] := by
  refine ⟨_, 2, rfl, fun k p hp => ?_⟩
  rcases k with _ | _ | k
  · cases hp; exact ⟨pb, 0, rfl, h0, h1⟩
  · cases hp; exact ⟨pb, 0, rfl, h2, h3⟩
  · cases hp
theorem ask_line (l : List (Int × Int)) (g3 : 3 ≤ l.length) (ok3 : ShOk 3 l []) (p q : Int × Int) (hp : Bn3 p) (hq : Bn3 q) (hno : bcB (box l) (box [p, q]) = false) {wt : Bool} (hv : polLV l [] [p, q] = wt) (u : World) (v1 v2 v3 : Value) (s1 : SlP u v1 l) (s2 : SlH u v2 []) (s3 : SlP u v3 [p, q]) :
    Calls Tryz.prog 21 #[.agg #[.int .i64 3, v1, v2], .agg #[.int .i64 2, v3, .slice none 0 0], .int .i64 0, .int .i64 0] u fun e w' => e = .returned (.tuple #[.bool false, .bool wt]) ∧ Below u.heap.size u w' := by
  have h := ask_cut (X := 0) (by omega) l [] ok3 [p, q] (by rw [ppB_3 g3]; exact hno) ⟨fun x hx => by
    simp only [List.mem_cons, List.not_mem_nil, or_false] at hx
    rcases hx with h | h
    · rw [h]; exact hp
    · rw [h]; exact hq, by simp, by simp, .inr (.inr (.inl ⟨rfl, by simp, by simp⟩))⟩ v1 v2 v3 (.slice none 0 0) u s1 s2 s3 (SlH_nil _ 0 none)
  rw [hdN2, show mtV 3 l [] 2 [p, q] [] = wt from hv] at h
  exact h
theorem ask_hor (l : List (Int × Int)) (g3 : 3 ≤ l.length) (ok3 : ShOk 3 l []) (n : Int) (hn : -500 ≤ n ∧ n ≤ 500) {x0 x1 x2 x3 : Int} (hb : box l = (x0, x1, x2, x3)) (hx : -500 ≤ x0 ∧ x0 ≤ x2 ∧ x2 ≤ 500 ∧ -500 ≤ x1 ∧ x1 ≤ x3 ∧ x3 ≤ 500) {c d : Bool} (hc : decide (x1 ≤ n) = c) (hd : decide (n ≤ x3) = d) (u : World) (v1 v2 v3 : Value) (s1 : SlP u v1 l) (s2 : SlH u v2 []) (s3 : SlP u v3 [(x0 - 1, n), (x2 + 1, n)]) :
    Calls Tryz.prog 21 #[.agg #[.int .i64 3, v1, v2], .agg #[.int .i64 2, v3, .slice none 0 0], .int .i64 0, .int .i64 0] u fun e w' => e = .returned (.tuple #[.bool false, .bool (c && d)]) ∧ Below u.heap.size u w' :=
  ask_line l g3 ok3 (x0 - 1, n) (x2 + 1, n) (by unfold Bn3; simp only; omega) (by unfold Bn3; simp only; omega) (by rw [hb]; unfold bcB; exact decide_eq_false fun h => by have := (box_spec [(x0 - 1, n), (x2 + 1, n)] (by simp)).1 (x0 - 1, n) (by simp); simp only at h this; omega) (wt := c && d) (by have := cut_hor g3 n; rw [hb] at this; rw [this, Bool.decide_and, hc, hd]) u v1 v2 v3 s1 s2 s3
theorem ask_ver (l : List (Int × Int)) (g3 : 3 ≤ l.length) (ok3 : ShOk 3 l []) (n : Int) (hn : -500 ≤ n ∧ n ≤ 500) {x0 x1 x2 x3 : Int} (hb : box l = (x0, x1, x2, x3)) (hx : -500 ≤ x0 ∧ x0 ≤ x2 ∧ x2 ≤ 500 ∧ -500 ≤ x1 ∧ x1 ≤ x3 ∧ x3 ≤ 500) {c d : Bool} (hc : decide (x0 ≤ n) = c) (hd : decide (n ≤ x2) = d) (u : World) (v1 v2 v3 : Value) (s1 : SlP u v1 l) (s2 : SlH u v2 []) (s3 : SlP u v3 [(n, x1 - 1), (n, x3 + 1)]) :
    Calls Tryz.prog 21 #[.agg #[.int .i64 3, v1, v2], .agg #[.int .i64 2, v3, .slice none 0 0], .int .i64 0, .int .i64 0] u fun e w' => e = .returned (.tuple #[.bool false, .bool (c && d)]) ∧ Below u.heap.size u w' :=
  ask_line l g3 ok3 (n, x1 - 1) (n, x3 + 1) (by unfold Bn3; simp only; omega) (by unfold Bn3; simp only; omega) (by rw [hb]; unfold bcB; exact decide_eq_false fun h => by have := (box_spec [(n, x1 - 1), (n, x3 + 1)] (by simp)).1 (n, x1 - 1) (by simp); simp only at h this; omega) (wt := c && d) (by have := cut_ver g3 n; rw [hb] at this; rw [this, Bool.decide_and, hc, hd]) u v1 v2 v3 s1 s2 s3
set_option maxRecDepth 100000 in
set_option maxHeartbeats 8000000 in
theorem cut_c (l : List (Int × Int)) (H : List (List (Int × Int))) (n : Int) (q : Bool) (hl0 : l.length ≤ 9223372036854775807) (hH0 : H.length ≤ 9223372036854775807) (hHH0 : ∀ h ∈ H, h.length ≤ 9223372036854775807) (vg vh : Value) (w : World) (hvg : SlP w vg l) (hvh : SlH w vh H) (hcap : CapOk vh) :
    Calls Tryz.prog 6 #[.agg #[vg, vh], .int .i64 n, .bool q] w fun e w' => e = .returned (.bool true) ∧ Below w.heap.size w w' := by
  obtain ⟨Ag, cg, rfl, -⟩ := id hvg
  obtain ⟨Ah, ch, rfl, -⟩ := id hvh
  have st0 := (Blk.nil w).push rfl #[.slice Ag l.length cg, .slice Ah H.length ch] 25
  have hfit := fun u h1 h2 => fits1_c l H hl0 hH0 hHH0 (.slice Ag l.length cg) (.slice Ah H.length ch) u h1 h2
  have hHg : ∀ k, (H.getD k []).length ≤ 9223372036854775807 := fun k => by
    rcases Nat.lt_or_ge k H.length with g | g
    · rw [List.getD_eq_getElem?_getD, List.getElem?_eq_getElem g]; exact hHH0 _ (List.getElem_mem g)
    · rw [List.getD_eq_getElem?_getD, List.getElem?_eq_none g]; simp
  have hscp := fun u h1 h2 => iscp_c l H hl0 hHg (.slice Ag l.length cg) (.slice Ah H.length ch) u h1 h2 hcap
  generalize hft : (decide (l.length ≤ 2147483647) && (decide (H.length ≤ 2147483647) && H.all fun h => decide (h.length ≤ 2147483647))) = ft at *
  generalize hsc : scpB l H = sc at *
  have hbig := hsc
  generalize hng : l.length = ng at *
  generalize hnh : H.length = nh at *
  go_enter Tryz.func6, Tryz.ntmps6
  have z0 := st0.cell 0 rfl 0
  have z1 := st0.cell 0 rfl 1
  simp only [List.getElem?_toArray, List.getElem?_cons_zero, List.getElem?_cons_succ] at z0 z1
  go_wp2_with (go_at_call 15; refine JR.StopY.out ?_)
  refine ⟨?_⟩
  refine (hfit _ (hvg.below st0.hb) (hvh.below st0.hb)).mono ?_
  rintro e w1 ⟨rfl, hb⟩
  have st1 := st0.ext hb
  clear hb st0
  clear hfit z0 z1
  cases ft with
  | false =>
    go_wp2
    go_ret
    exact ⟨rfl, st1.hb⟩
  | true =>
  have z0 := st1.cell 0 rfl 0
  have z1 := st1.cell 0 rfl 1
  simp only [List.getElem?_toArray, List.getElem?_cons_zero, List.getElem?_cons_succ] at z0 z1
  go_wp2_with (go_at_call 16; refine JR.StopY.out ?_)
  refine ⟨?_⟩
  refine (hscp _ (hvg.below st1.hb) (hvh.below st1.hb)).mono ?_
  rintro e w2 ⟨rfl, hb⟩
  have st2 := st1.ext hb
  clear hb st1
  clear hscp z0 z1
  cases sc with
  | false =>
    go_wp2
    go_ret
    exact ⟨rfl, st2.hb⟩
  | true =>
  have z0 := st2.cell 0 rfl 0
  have z1 := st2.cell 0 rfl 1
  simp only [List.getElem?_toArray, List.getElem?_cons_zero, List.getElem?_cons_succ] at z0 z1
  by_cases c1 : (0 : Int) < (nh : Int)
  · have d1 := decide_eq_true c1
    go_wp2
    go_ret
    exact ⟨rfl, st2.hb⟩
  have d1 := decide_eq_false c1
  by_cases c2 : n < (-500 : Int)
  · have d2 := decide_eq_true c2
    go_wp2
    go_ret
    exact ⟨rfl, st2.hb⟩
  have d2 := decide_eq_false c2
  by_cases c3 : (500 : Int) < n
  · have d3 := decide_eq_true c3
    go_wp2
    go_ret
    exact ⟨rfl, st2.hb⟩
  have d3 := decide_eq_false c3
  obtain rfl : H = [] := List.length_eq_zero_iff.1 (by omega)
  obtain rfl : nh = 0 := by omega
  obtain ⟨⟨g3, g12, gok⟩, -, -⟩ := scp_facts hbig
  have ok3 := scp_ok hbig
  obtain ⟨bl, hbl⟩ : ∃ b, box l = b := ⟨_, rfl⟩
  have hgr := fun u hu => grc_c l (by omega) (by omega) (.slice Ag l.length cg) u hu
  rw [bxn_box l (by omega), hbl, hng] at hgr
  have hbx := box_in500 l (by omega) gok
  rw [hbl] at hbx
  obtain ⟨x0, x1, x2, x3⟩ := bl
  simp only at hgr hbx
  go_wp2_with (go_at_call 27; refine JR.StopY.out ?_)
  refine ⟨?_⟩
  refine (hgr _ (hvg.below st2.hb)).mono ?_
  rintro e w3 ⟨rfl, hb⟩
  have st3 := st2.ext hb
  clear hb st2
  clear hgr z0 z1
  have st4 := st3.push (b := w3.heap.size) (by simp) #[.int .i64 x0, .int .i64 x1, .int .i64 x2, .int .i64 x3] 42
  have z0 := st4.cell 0 rfl 0
  have z1 := st4.cell 0 rfl 1
  have z2 := st4.cell 0 rfl 2
  have z3 := st4.cell 0 rfl 3
  simp only [List.getElem?_toArray, List.getElem?_cons_zero, List.getElem?_cons_succ] at z0 z1 z2 z3
  have hpo := fun u (h1 : SlP u (.slice Ag ng cg) l) h2 => scPo_r l [] (by omega) (by omega) (by simp) (fun x hx => by simp at hx) (.slice Ag ng cg) (.slice Ah 0 ch) u h1 h2
  obtain ⟨c1', hc1⟩ : ∃ b, decide (x1 ≤ n) = b := ⟨_, rfl⟩
  obtain ⟨c2', hc2⟩ : ∃ b, decide (n ≤ x3) = b := ⟨_, rfl⟩
  have st5 := st4.push (b := w3.heap.size + 1) (by simp) #[.int .i64 (x0 - 1), .int .i64 n, .int .i64 (x2 + 1), .int .i64 n] 27
  cases q with
  | false =>
    have hask := ask_hor l g3 ok3 n (by omega) hbl hbx hc1 hc2
    go_upto_region 7 with (fail)
    clear st3 st4 z0 z1 z2 z3
    generalize (w3.alloc _).alloc _ = w4 at *
    generalize w3.heap.size = pb at *
    go_cut [9] from 48 to 59 (fun q wy => q = .bool (c1' && c2') ∧ wy = w4)
    case first =>
      have y1 := st5.cell 1 rfl 1
      have y3 := st5.cell 1 rfl 3
      simp only [List.getElem?_toArray, List.getElem?_cons_zero, List.getElem?_cons_succ] at y1 y3
      clear hask
      cases c1' with
      | false => go_wp2; go_meet; exact ⟨rfl, rfl⟩
      | true =>
        cases c2' with
        | false => go_wp2; go_meet; exact ⟨rfl, rfl⟩
        | true => go_wp2; go_meet; exact ⟨rfl, rfl⟩
    case rest =>
    obtain ⟨rfl, rfl⟩ := hcut
    have st6 := st5
    clear st5
    generalize (c1' && c2') = wt at *
    have hsl := slp_two (pb := pb + 1) (a := x0 - 1) (b := n) (c := x2 + 1) (d := n) (st6.cell 0 rfl 0) (st6.cell 0 rfl 1) (st6.cell 0 rfl 2) (st6.cell 0 rfl 3)
    have z0 := st6.cell 2 rfl 0
    have z1 := st6.cell 2 rfl 1
    simp only [List.getElem?_toArray, List.getElem?_cons_zero, List.getElem?_cons_succ] at z0 z1
    go_wp2_with (go_at_call 19; refine JR.StopY.out ?_)
    refine ⟨?_⟩
    refine (hpo _ (hvg.below st6.hb) (hvh.below st6.hb)).mono ?_
    rintro e wa ⟨v1, v2, rfl, g1, g2, hb⟩
    have sta := st6.ext hb
    have hsl := hsl.below hb
    clear hb st6 z0 z1
    go_wp2_with (go_at_call 20; refine JR.StopY.out ?_)
    refine ⟨?_⟩
    refine (scLn_r _ (by simp) _ _ hsl).mono ?_
    rintro e wb ⟨v3, rfl, g4, hb⟩
    have stb := sta.ext hb
    have g1 := g1.p.below hb
    have g2 := g2.h.below hb
    clear hb sta hsl
    go_wp2_with (go_at_call 21; refine JR.StopY.out ?_)
    refine ⟨?_⟩
    refine (hask _ v1 v2 v3 g1 g2 g4.p).mono ?_
    rintro e wc ⟨rfl, hb⟩
    have stc := stb.ext hb
    clear hb stb g1 g2 g4 hask
    go_wp2_with (go_at_call 22; refine JR.StopY.out ?_)
    refine ⟨?_⟩
    refine (awk_c _).mono ?_
    rintro e wd ⟨rfl, hb⟩
    have std := stc.ext hb
    clear hb stc
    go_wp2
    go_ret
    exact ⟨rfl, std.hb⟩
  | true =>
    obtain ⟨c3', hc3⟩ : ∃ b, decide (x0 ≤ n) = b := ⟨_, rfl⟩
    obtain ⟨c4', hc4⟩ : ∃ b, decide (n ≤ x2) = b := ⟨_, rfl⟩
    have hask := ask_ver l g3 ok3 n (by omega) hbl hbx hc3 hc4
    go_upto_region 7 with (fail)
    clear st3 st4 z0 z1 z2 z3
    generalize (w3.alloc _).alloc _ = w4 at *
    generalize w3.heap.size = pb at *
    go_cut [9] from 48 to 59 (fun q wy => q = .bool (c1' && c2') ∧ wy = w4)
    case first =>
      have y1 := st5.cell 1 rfl 1
      have y3 := st5.cell 1 rfl 3
      simp only [List.getElem?_toArray, List.getElem?_cons_zero, List.getElem?_cons_succ] at y1 y3
      clear hask
      cases c1' with
      | false => go_wp2; go_meet; exact ⟨rfl, rfl⟩
      | true =>
        cases c2' with
        | false => go_wp2; go_meet; exact ⟨rfl, rfl⟩
        | true => go_wp2; go_meet; exact ⟨rfl, rfl⟩
    case rest =>
    obtain ⟨rfl, rfl⟩ := hcut
    have st6 := st5
    clear st5 hc1 hc2
    generalize (c1' && c2') = wt0 at *
    have z0 := st6.cell 1 rfl 0
    have z1 := st6.cell 1 rfl 1
    have z2 := st6.cell 1 rfl 2
    have z3 := st6.cell 1 rfl 3
    simp only [List.getElem?_toArray, List.getElem?_cons_zero, List.getElem?_cons_succ] at z0 z1 z2 z3
    have st7 := st6.push (b := wc.heap.size) rfl #[.int .i64 n, .int .i64 (x1 - 1), .int .i64 n, .int .i64 (x3 + 1)] 27
    go_upto_region 10 with (fail)
    clear st6 z0 z1 z2 z3
    generalize wc.alloc _ = w7 at *
    generalize wc.heap.size = pc at *
    go_cut [9] from 74 to 85 (fun q wy => q = .bool (c3' && c4') ∧ wy = w7)
    case first =>
      have y0 := st7.cell 2 rfl 0
      have y2 := st7.cell 2 rfl 2
      simp only [List.getElem?_toArray, List.getElem?_cons_zero, List.getElem?_cons_succ] at y0 y2
      clear hask
      cases c3' with
      | false => go_wp2; go_meet; exact ⟨rfl, rfl⟩
      | true =>
        cases c4' with
        | false => go_wp2; go_meet; exact ⟨rfl, rfl⟩
        | true => go_wp2; go_meet; exact ⟨rfl, rfl⟩
    case rest =>
    obtain ⟨rfl, rfl⟩ := hcut
    have st6 := st7
    clear st7
    generalize (c3' && c4') = wt at *
    have hsl := slp_two (pb := pc) (a := n) (b := x1 - 1) (c := n) (d := x3 + 1) (st6.cell 0 rfl 0) (st6.cell 0 rfl 1) (st6.cell 0 rfl 2) (st6.cell 0 rfl 3)
    have z0 := st6.cell 3 rfl 0
    have z1 := st6.cell 3 rfl 1
    simp only [List.getElem?_toArray, List.getElem?_cons_zero, List.getElem?_cons_succ] at z0 z1
    go_wp2_with (go_at_call 19; refine JR.StopY.out ?_)
    refine ⟨?_⟩
    refine (hpo _ (hvg.below st6.hb) (hvh.below st6.hb)).mono ?_
    rintro e wa ⟨v1, v2, rfl, g1, g2, hb⟩
    have sta := st6.ext hb
    have hsl := hsl.below hb
    clear hb st6 z0 z1
    go_wp2_with (go_at_call 20; refine JR.StopY.out ?_)
    refine ⟨?_⟩
    refine (scLn_r _ (by simp) _ _ hsl).mono ?_
    rintro e wb ⟨v3, rfl, g4, hb⟩
    have stb := sta.ext hb
    have g1 := g1.p.below hb
    have g2 := g2.h.below hb
    clear hb sta hsl
    go_wp2_with (go_at_call 21; refine JR.StopY.out ?_)
    refine ⟨?_⟩
    refine (hask _ v1 v2 v3 g1 g2 g4.p).mono ?_
    rintro e wc ⟨rfl, hb⟩
    have stc := stb.ext hb
    clear hb stb g1 g2 g4 hask
    go_wp2_with (go_at_call 22; refine JR.StopY.out ?_)
    refine ⟨?_⟩
    refine (awk_c _).mono ?_
    rintro e wd ⟨rfl, hb⟩
    have std := stc.ext hb
    clear hb stc
    go_wp2
    go_ret
    exact ⟨rfl, std.hb⟩
end Go.Proofs.YtbeoijpdacpaaaaGreat
