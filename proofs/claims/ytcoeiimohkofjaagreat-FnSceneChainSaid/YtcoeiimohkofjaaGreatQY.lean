import Derived.Test.YtcoeiimohkofjaaGreatSl
import Derived.Test.YtcoeiimohkofjaaGreatPlane
import Derived.Test.YtcoeiimohkofjaaGreatBlk
import Derived.Test.YtcoeiimohkofjaaGreatQM
import Derived.Test.YtcoeiimohkofjaaGreatQK
import Derived.StillTailTactics
import Derived.BigQuiet
import Derived.Test.YtcoeiimohkofjaaGreatQG
import Derived.Test.YtcoeiimohkofjaaGreatQH
import Derived.Test.YtcoeiimohkofjaaGreatQT
set_option linter.unusedSimpArgs false
set_option linter.unusedVariables false
/-! The scene's own segments (spec.geoSide, geoWithin, GeoOn, geoSign, GeoMeet, GeoLeft): what they say. -/
namespace PF
def gsd (a b p : Int × Int) : Int := (b.1 - a.1) * (p.2 - a.2) - (b.2 - a.2) * (p.1 - a.1)
def gwi (a b p : Int × Int) : Bool := decide (min a.1 b.1 ≤ p.1 ∧ p.1 ≤ max a.1 b.1 ∧ min a.2 b.2 ≤ p.2 ∧ p.2 ≤ max a.2 b.2)
def gon (a b p : Int × Int) : Bool := gwi a b p && decide (gsd a b p = 0)
def gsgn (n : Int) : Int := if 0 < n then 1 else if n < 0 then -1 else 0
def gmt (a b c d : Int × Int) : Bool := gon a b c || gon a b d || gon c d a || gon c d b || (decide (gsgn (gsd a b c) * gsgn (gsd a b d) < 0) && decide (gsgn (gsd c d a) * gsgn (gsd c d b) < 0))
def glf (a b p : Int × Int) : Bool := if b.2 < a.2 then decide (b.2 ≤ p.2 ∧ p.2 < a.2 ∧ 0 < gsd b a p) else decide (a.2 ≤ p.2 ∧ p.2 < b.2 ∧ 0 < gsd a b p)
/-- coordinates are small -/
def Bs (p : Int × Int) : Prop := -2000 ≤ p.1 ∧ p.1 ≤ 2000 ∧ -2000 ≤ p.2 ∧ p.2 ≤ 2000
theorem wrapS {x : Int} (h : -1000000000 ≤ x ∧ x ≤ 1000000000) : Go.IntKind.i64.wrap x = x := by
  unfold Go.IntKind.wrap
  simp [Go.IntKind.bits, Go.IntKind.signed]
  omega
theorem mul_bd {m n : Int} (hm : -4000 ≤ m ∧ m ≤ 4000) (hn : -4000 ≤ n ∧ n ≤ 4000) : -16000000 ≤ m * n ∧ m * n ≤ 16000000 := by
  have a1 := Int.mul_nonneg (a := 4000 - m) (b := 4000 + n) (by omega) (by omega)
  have a2 := Int.mul_nonneg (a := 4000 + m) (b := 4000 - n) (by omega) (by omega)
  have a3 := Int.mul_nonneg (a := 4000 - m) (b := 4000 - n) (by omega) (by omega)
  have a4 := Int.mul_nonneg (a := 4000 + m) (b := 4000 + n) (by omega) (by omega)
  have e1 : (4000 - m) * (4000 + n) + (4000 + m) * (4000 - n) = 32000000 - 2 * (m * n) := by grind
  have e2 : (4000 - m) * (4000 - n) + (4000 + m) * (4000 + n) = 32000000 + 2 * (m * n) := by grind
  omega
theorem gsd_bd {a b p : Int × Int} (ha : Bs a) (hb : Bs b) (hp : Bs p) : -32000000 ≤ gsd a b p ∧ gsd a b p ≤ 32000000 := by
  unfold Bs at ha hb hp
  have h1 := mul_bd (m := b.1 - a.1) (n := p.2 - a.2) (by omega) (by omega)
  have h2 := mul_bd (m := b.2 - a.2) (n := p.1 - a.1) (by omega) (by omega)
  unfold gsd
  omega
theorem gsd_sw (a b p : Int × Int) : gsd b a p = -gsd a b p := by unfold gsd; grind
theorem gon_rc (a b p : Int × Int) : gon a b p = rcOn a.1 a.2 b.1 b.2 p.1 p.2 := by
  unfold gon gwi rcOn gsd
  rw [Bool.eq_iff_iff, Bool.and_eq_true, decide_eq_true_iff, decide_eq_true_iff, decide_eq_true_iff, Int.mul_comm (p.1 - a.1), Int.mul_comm (p.2 - a.2)]
  omega
theorem glf_rc (a b p : Int × Int) : glf a b p = rcIn a.1 a.2 b.1 b.2 p.1 p.2 := by
  unfold glf rcIn
  rw [gsd_sw a b]
  unfold gsd
  rw [Int.mul_comm (b.1 - a.1)]
  split <;> apply decide_eq_decide.2 <;> omega
end PF
set_option linter.unusedSimpArgs false
set_option linter.unusedVariables false
/-! The scene's own segments: the contracts. -/
namespace JR
open Go Go.RowKit
section
variable {P : Program} {ops : Array Oper} {Q : Exit → Act → World → Prop} {G : World → Prop} {B0 : Nat} {plan : List Ent} {a0 : Act} {i : Nat} {o : Oper} {ns : List Need}
theorem gd {k t : Nat} {b : Bool} (hp : plan.getD k .any = .val (.bool b)) (a : Act) (w : World) (hf : facts plan a0 a w (.frm k t :: ns)) : a.eval (.tmp t) = .bool b := by
  obtain ⟨⟨_, _, h⟩, -⟩ := hf
  rw [hp] at h
  exact h
theorem sk {k t : Nat} {b : Bool} (hg : o.guard = some (k, b)) (hd : (ops[k]?).bind (·.dst) = some t) (hp : plan.getD k .any = .val (.bool (!b))) : OpOk P ops Q G B0 plan a0 i o (.val undef) (.frm k t :: ns) :=
  OpOk.skipG hg hd (gd hp)
theorem qt {x : Value} {k t : Nat} {b : Bool} (hg : o.guard = some (k, b)) (hd : (ops[k]?).bind (·.dst) = some t) (hp : plan.getD k .any = .val (.bool b))
    (h : ∀ a w, G w → facts plan a0 a w (.frm k t :: ns) → (execOp a.eval o).run P w = .ok (.value x) w) : OpOk P ops Q G B0 plan a0 i o (.val x) (.frm k t :: ns) :=
  OpOk.quietG hg hd (gd hp) h
end
end JR
namespace PF
open Go Go.RowKit JR
theorem Blk.c3 {w u : World} {L : List (Nat × Array Value × TypeId)} (h : Blk w u L) (i : Nat) {b : Nat} {x y z : Value} {T : TypeId} (hi : L[i]? = some (b, #[x, y, z], T)) : u.cell? ⟨b, 0, none⟩ = some x ∧ u.cell? ⟨b, 1, none⟩ = some y ∧ u.cell? ⟨b, 2, none⟩ = some z :=
  ⟨h.cell i hi 0, h.cell i hi 1, h.cell i hi 2⟩
theorem Blk.c2 {w u : World} {L : List (Nat × Array Value × TypeId)} (h : Blk w u L) (i : Nat) {b : Nat} {x y : Value} {T : TypeId} (hi : L[i]? = some (b, #[x, y], T)) : u.cell? ⟨b, 0, none⟩ = some x ∧ u.cell? ⟨b, 1, none⟩ = some y :=
  ⟨h.cell i hi 0, h.cell i hi 1⟩
theorem Blk.keep0 {w u u' : World} {L : List (Nat × Array Value × TypeId)} (h : Blk w u L) (hG : Keep [] u u') : Blk w u' L := h.keep hG (fun i x _ => by simp) (fun x hx => by simp at hx)
theorem Blk.k3 {w u u' : World} {L : List (Nat × Array Value × TypeId)} (h : Blk w u L) (hG : Keep [] u u') (i : Nat) {b : Nat} {x y z : Value} {T : TypeId} (hi : L[i]? = some (b, #[x, y, z], T)) : u'.cell? ⟨b, 0, none⟩ = some x ∧ u'.cell? ⟨b, 1, none⟩ = some y ∧ u'.cell? ⟨b, 2, none⟩ = some z :=
  (h.keep0 hG).c3 i hi
theorem Blk.k2 {w u u' : World} {L : List (Nat × Array Value × TypeId)} (h : Blk w u L) (hG : Keep [] u u') (i : Nat) {b : Nat} {x y : Value} {T : TypeId} (hi : L[i]? = some (b, #[x, y], T)) : u'.cell? ⟨b, 0, none⟩ = some x ∧ u'.cell? ⟨b, 1, none⟩ = some y :=
  (h.keep0 hG).c2 i hi
end PF
namespace Go.Proofs.YtcoeiimohkofjaaGreat
structure _root_.JR.StopY (p : Prop) : Prop where out : p
open Go.RowKit PF JR
set_option maxHeartbeats 1000000 in
theorem gsd_c {a b p : Int × Int} (ha : Bs a) (hb : Bs b) (hp : Bs p) (w : World) :
    Calls Tryz.prog 41 #[.agg #[.int .i64 a.1, .int .i64 a.2], .agg #[.int .i64 b.1, .int .i64 b.2], .agg #[.int .i64 p.1, .int .i64 p.2]] w fun e w' => e = .returned (.int .i64 (gsd a b p)) ∧ Below w.heap.size w w' := by
  have h3 := gsd_bd ha hb hp
  unfold Bs at ha hb hp
  have h1 := mul_bd (m := b.1 - a.1) (n := p.2 - a.2) (by omega) (by omega)
  have h2 := mul_bd (m := b.2 - a.2) (n := p.1 - a.1) (by omega) (by omega)
  unfold gsd at h3 ⊢
  obtain ⟨a1, a2⟩ := a
  obtain ⟨b1, b2⟩ := b
  obtain ⟨p1, p2⟩ := p
  simp only at *
  have w1 := wrapS (x := b1 - a1) (by omega)
  have w2 := wrapS (x := p2 - a2) (by omega)
  have w3 := wrapS (x := b2 - a2) (by omega)
  have w4 := wrapS (x := p1 - a1) (by omega)
  have w5 := wrapS (x := (b1 - a1) * (p2 - a2)) (by omega)
  have w6 := wrapS (x := (b2 - a2) * (p1 - a1)) (by omega)
  have w7 := wrapS (x := (b1 - a1) * (p2 - a2) - (b2 - a2) * (p1 - a1)) (by omega)
  have st0 := (((Blk.nil w).push rfl #[.int .i64 a1, .int .i64 a2] 27).push (b := w.heap.size + 1) (by simp) #[.int .i64 b1, .int .i64 b2] 27).push (b := w.heap.size + 1 + 1) (by simp) #[.int .i64 p1, .int .i64 p2] 27
  clear h1 h2 h3 ha hb hp
  go_enter Tryz.func41, Tryz.ntmps41
  go_wp2
  go_ret
  exact ⟨rfl, st0.hb⟩
set_option maxHeartbeats 1000000 in
theorem gwi_c (a b p : Int × Int) (w : World) :
    Calls Tryz.prog 63 #[.agg #[.int .i64 a.1, .int .i64 a.2], .agg #[.int .i64 b.1, .int .i64 b.2], .agg #[.int .i64 p.1, .int .i64 p.2]] w fun e w' => e = .returned (.bool (gwi a b p)) ∧ Below w.heap.size w w' := by
  obtain ⟨a1, a2⟩ := a
  obtain ⟨b1, b2⟩ := b
  obtain ⟨p1, p2⟩ := p
  unfold gwi
  simp only
  have st0 := (((Blk.nil w).push rfl #[.int .i64 a1, .int .i64 a2] 27).push (b := w.heap.size + 1) (by simp) #[.int .i64 b1, .int .i64 b2] 27).push (b := w.heap.size + 1 + 1) (by simp) #[.int .i64 p1, .int .i64 p2] 27
  have hx : (min a1 b1 = a1 ∧ max a1 b1 = b1 ∧ a1 ≤ b1 ∧ ¬ b1 < a1) ∨ (min a1 b1 = b1 ∧ max a1 b1 = a1 ∧ ¬ a1 ≤ b1 ∧ b1 < a1) := by omega
  have hy : (min a2 b2 = a2 ∧ max a2 b2 = b2 ∧ a2 ≤ b2 ∧ ¬ b2 < a2) ∨ (min a2 b2 = b2 ∧ max a2 b2 = a2 ∧ ¬ a2 ≤ b2 ∧ b2 < a2) := by omega
  rcases hx with ⟨e1, e2, x1, x2⟩ | ⟨e1, e2, x1, x2⟩ <;> rcases hy with ⟨e3, e4, y1, y2⟩ | ⟨e3, e4, y1, y2⟩ <;> rw [e1, e2, e3, e4] <;> clear e1 e2 e3 e4
  all_goals
    go_enter Tryz.func63, Tryz.ntmps63
    go_wp2
    all_goals
      go_ret
      refine ⟨congrArg (fun b => Ending.returned (Value.bool b)) (?_ : _ = _), st0.hb⟩
      rw [Bool.eq_iff_iff]
      try simp only [Bool.and_eq_true, decide_eq_true_eq, Bool.false_eq_true]
      try omega
      try (simp_all; omega)
set_option maxHeartbeats 1000000 in
theorem gon_c {a b p : Int × Int} (ha : Bs a) (hb : Bs b) (hp : Bs p) (w : World) :
    Calls Tryz.prog 54 #[.agg #[.int .i64 a.1, .int .i64 a.2], .agg #[.int .i64 b.1, .int .i64 b.2], .agg #[.int .i64 p.1, .int .i64 p.2]] w fun e w' => e = .returned (.bool (gon a b p)) ∧ Below w.heap.size w w' := by
  have hs := fun u => gsd_c ha hb hp u
  obtain ⟨r, hr⟩ : ∃ r, gon a b p = r := ⟨_, rfl⟩
  rw [hr]
  unfold gon at hr
  have st0 := (((Blk.nil w).push rfl #[.int .i64 a.1, .int .i64 a.2] 27).push (b := w.heap.size + 1) (by simp) #[.int .i64 b.1, .int .i64 b.2] 27).push (b := w.heap.size + 1 + 1) (by simp) #[.int .i64 p.1, .int .i64 p.2] 27
  obtain ⟨c00, c01⟩ := st0.c2 0 rfl
  obtain ⟨c10, c11⟩ := st0.c2 1 rfl
  obtain ⟨c20, c21⟩ := st0.c2 2 rfl
  clear ha hb hp
  go_enter Tryz.func54, Tryz.ntmps54
  go_wp2_with (go_at_call 63; refine JR.StopY.out ?_)
  refine ⟨?_⟩
  refine (gwi_c a b p _).mono ?_
  rintro e w1 ⟨rfl, hb⟩
  have st1 := st0.ext hb
  clear c00 c01 c10 c11 c20 c21 hb st0
  obtain ⟨c00, c01⟩ := st1.c2 0 rfl
  obtain ⟨c10, c11⟩ := st1.c2 1 rfl
  obtain ⟨c20, c21⟩ := st1.c2 2 rfl
  cases hw : gwi a b p with
  | false =>
    rw [hw, Bool.false_and] at hr
    subst hr
    clear hw hs
    go_wp2
    go_ret
    exact ⟨rfl, st1.hb⟩
  | true =>
    go_wp2_with (go_at_call 41; refine JR.StopY.out ?_)
    refine ⟨?_⟩
    refine (hs _).mono ?_
    rintro e w2 ⟨rfl, hb⟩
    have st2 := st1.ext hb
    clear c00 c01 c10 c11 c20 c21 hb st1
    obtain ⟨c00, c01⟩ := st2.c2 0 rfl
    obtain ⟨c10, c11⟩ := st2.c2 1 rfl
    obtain ⟨c20, c21⟩ := st2.c2 2 rfl
    rw [hw, Bool.true_and] at hr
    subst hr
    clear hs hw
    generalize hz : gsd a b p = z
    go_wp2
    go_ret
    refine ⟨congrArg (fun b => Ending.returned (Value.bool b)) (?_ : _ = _), st2.hb⟩
    subst hz
    rw [Bool.eq_iff_iff]
    simp
theorem gsg_c (n : Int) (w : World) : Calls Tryz.prog 62 #[.int .i64 n] w fun e w' => e = .returned (.int .i64 (gsgn n)) ∧ Below w.heap.size w w' := by
  unfold gsgn
  go_enter Tryz.func62, Tryz.ntmps62
  by_cases h1 : 0 < n
  · rw [if_pos h1]
    go_wp2
    go_ret
    exact ⟨rfl, Below.refl _ _⟩
  · rw [if_neg h1]
    by_cases h2 : n < 0
    · rw [if_pos h2]
      go_wp2
      go_ret
      exact ⟨rfl, Below.refl _ _⟩
    · rw [if_neg h2]
      go_wp2
      go_ret
      exact ⟨rfl, Below.refl _ _⟩
theorem gsgn_mul (m n : Int) : -1 ≤ gsgn m * gsgn n ∧ gsgn m * gsgn n ≤ 1 := by
  unfold gsgn
  split <;> split <;> (try split) <;> (try split) <;> simp
set_option maxHeartbeats 4000000 in
theorem gmt_c {a b c d : Int × Int} (ha : Bs a) (hb : Bs b) (hc : Bs c) (hd : Bs d) (w : World) :
    Calls Tryz.prog 52 #[.agg #[.int .i64 a.1, .int .i64 a.2], .agg #[.int .i64 b.1, .int .i64 b.2], .agg #[.int .i64 c.1, .int .i64 c.2], .agg #[.int .i64 d.1, .int .i64 d.2]] w fun e w' => e = .returned (.bool (gmt a b c d)) ∧ Below w.heap.size w w' := by
  have o1 := fun u => gon_c ha hb hc u
  have o2 := fun u => gon_c ha hb hd u
  have o3 := fun u => gon_c hc hd ha u
  have o4 := fun u => gon_c hc hd hb u
  have s1 := fun u => gsd_c ha hb hc u
  have s2 := fun u => gsd_c ha hb hd u
  have s3 := fun u => gsd_c hc hd ha u
  have s4 := fun u => gsd_c hc hd hb u
  obtain ⟨r, hr⟩ : ∃ r, gmt a b c d = r := ⟨_, rfl⟩
  rw [hr]
  unfold gmt at hr
  have st0 := ((((Blk.nil w).push rfl #[.int .i64 a.1, .int .i64 a.2] 27).push (b := w.heap.size + 1) (by simp) #[.int .i64 b.1, .int .i64 b.2] 27).push (b := w.heap.size + 1 + 1) (by simp) #[.int .i64 c.1, .int .i64 c.2] 27).push (b := w.heap.size + 1 + 1 + 1) (by simp) #[.int .i64 d.1, .int .i64 d.2] 27
  obtain ⟨c00, c01⟩ := st0.c2 0 rfl
  obtain ⟨c10, c11⟩ := st0.c2 1 rfl
  obtain ⟨c20, c21⟩ := st0.c2 2 rfl
  obtain ⟨c30, c31⟩ := st0.c2 3 rfl
  clear ha hb hc hd
  go_enter Tryz.func52, Tryz.ntmps52
  go_wp2_with (go_at_call 54; refine JR.StopY.out ?_)
  refine ⟨?_⟩
  refine (o1 _).mono ?_
  rintro e w1 ⟨rfl, hb⟩
  have st1 := st0.ext hb
  clear c00 c01 c10 c11 c20 c21 c30 c31 hb st0
  obtain ⟨c00, c01⟩ := st1.c2 0 rfl
  obtain ⟨c10, c11⟩ := st1.c2 1 rfl
  obtain ⟨c20, c21⟩ := st1.c2 2 rfl
  obtain ⟨c30, c31⟩ := st1.c2 3 rfl
  cases hg : gon a b c with
  | true =>
    simp only [hg, Bool.true_or, Bool.or_true] at hr
    subst hr
    clear hg
    go_wp2
    go_ret
    exact ⟨rfl, st1.hb⟩
  | false =>
    rw [hg] at hr
    clear hg
    go_wp2_with (go_at_call 54; refine JR.StopY.out ?_)
    refine ⟨?_⟩
    refine (o2 _).mono ?_
    rintro e w2 ⟨rfl, hb⟩
    have st2 := st1.ext hb
    clear c00 c01 c10 c11 c20 c21 c30 c31 hb st1
    obtain ⟨c00, c01⟩ := st2.c2 0 rfl
    obtain ⟨c10, c11⟩ := st2.c2 1 rfl
    obtain ⟨c20, c21⟩ := st2.c2 2 rfl
    obtain ⟨c30, c31⟩ := st2.c2 3 rfl
    cases hg : gon a b d with
    | true =>
      simp only [hg, Bool.true_or, Bool.or_true] at hr
      subst hr
      clear hg
      go_wp2
      go_ret
      exact ⟨rfl, st2.hb⟩
    | false =>
      rw [hg] at hr
      clear hg
      go_wp2_with (go_at_call 54; refine JR.StopY.out ?_)
      refine ⟨?_⟩
      refine (o3 _).mono ?_
      rintro e w3 ⟨rfl, hb⟩
      have st3 := st2.ext hb
      clear c00 c01 c10 c11 c20 c21 c30 c31 hb st2
      obtain ⟨c00, c01⟩ := st3.c2 0 rfl
      obtain ⟨c10, c11⟩ := st3.c2 1 rfl
      obtain ⟨c20, c21⟩ := st3.c2 2 rfl
      obtain ⟨c30, c31⟩ := st3.c2 3 rfl
      cases hg : gon c d a with
      | true =>
        simp only [hg, Bool.true_or, Bool.or_true] at hr
        subst hr
        clear hg
        go_wp2
        go_ret
        exact ⟨rfl, st3.hb⟩
      | false =>
        rw [hg] at hr
        clear hg
        go_wp2_with (go_at_call 54; refine JR.StopY.out ?_)
        refine ⟨?_⟩
        refine (o4 _).mono ?_
        rintro e w4 ⟨rfl, hb⟩
        have st4 := st3.ext hb
        clear c00 c01 c10 c11 c20 c21 c30 c31 hb st3
        obtain ⟨c00, c01⟩ := st4.c2 0 rfl
        obtain ⟨c10, c11⟩ := st4.c2 1 rfl
        obtain ⟨c20, c21⟩ := st4.c2 2 rfl
        obtain ⟨c30, c31⟩ := st4.c2 3 rfl
        cases hg : gon c d b with
        | true =>
          simp only [hg, Bool.true_or, Bool.or_true] at hr
          subst hr
          clear hg
          go_wp2
          go_ret
          exact ⟨rfl, st4.hb⟩
        | false =>
          rw [hg] at hr
          clear hg
          clear o1 o2 o3 o4
          simp only [Bool.false_or] at hr
          have m1 := wrapS (x := gsgn (gsd a b c) * gsgn (gsd a b d)) (by have := gsgn_mul (gsd a b c) (gsd a b d); omega)
          have m2 := wrapS (x := gsgn (gsd c d a) * gsgn (gsd c d b)) (by have := gsgn_mul (gsd c d a) (gsd c d b); omega)
          have g1 := fun u => gsg_c (gsd a b c) u
          have g2 := fun u => gsg_c (gsd a b d) u
          have g3 := fun u => gsg_c (gsd c d a) u
          have g4 := fun u => gsg_c (gsd c d b) u
          clear c00 c01 c10 c11 c20 c21 c30 c31
          go_wp2
          generalize gsgn (gsd a b c) = y1 at *
          generalize gsgn (gsd a b d) = y2 at *
          generalize gsgn (gsd c d a) = y3 at *
          generalize gsgn (gsd c d b) = y4 at *
          generalize gsd a b c = z1 at *
          generalize gsd a b d = z2 at *
          generalize gsd c d a = z3 at *
          generalize gsd c d b = z4 at *
          by_cases h1 : y1 * y2 < 0
          case neg =>
            have d1 := decide_eq_false h1
            rw [d1, Bool.false_and] at hr
            subst hr
            refine wp_region_K [] [.val (.agg #[.int .i64 a.1, .int .i64 a.2]), .val (.agg #[.int .i64 b.1, .int .i64 b.2]), .val (.agg #[.int .i64 c.1, .int .i64 c.2]), .val (.int .i64 z1), .val (.int .i64 y1), .val (.agg #[.int .i64 a.1, .int .i64 a.2]), .val (.agg #[.int .i64 b.1, .int .i64 b.2]), .val (.agg #[.int .i64 d.1, .int .i64 d.2]), .val (.int .i64 z2), .val (.int .i64 y2), .val (.int .i64 (y1 * y2)), .val (.bool false), .val (.bool false), .val (undef), .val (undef), .val (undef), .val (undef), .val (undef), .val (undef), .val (undef), .val (undef), .val (undef), .val (undef), .val (undef), .val (undef), .val (.bool false), .val (.bool false)]
              [[.ini 4], [.ini 5], [.ini 6], [.frm 0 31, .frm 1 32, .frm 2 33], [.frm 3 34], [.ini 4], [.ini 5], [.ini 7], [.frm 5 36, .frm 6 37, .frm 7 38], [.frm 8 39], [.frm 4 35, .frm 9 40], [.frm 10 41], [.frm 11 42], [.frm 12 43, .ini 6], [.frm 12 43, .ini 7], [.frm 12 43, .ini 4], [.frm 12 43, .frm 13 44, .frm 14 45, .frm 15 46], [.frm 12 43, .frm 16 47], [.frm 12 43, .ini 6], [.frm 12 43, .ini 7], [.frm 12 43, .ini 5], [.frm 12 43, .frm 18 49, .frm 19 50, .frm 20 51], [.frm 12 43, .frm 21 52], [.frm 12 43, .frm 17 48, .frm 22 53], [.frm 12 43, .frm 23 54], [.frm 12 43, .frm 24 55], [.frm 25 56]]
              mixed (by kernel_rfl) (by kernel_rfl) (allPre_of ⟨trivial, trivial, trivial, trivial, trivial, trivial, trivial, trivial, trivial, trivial, trivial, trivial, trivial, trivial, trivial, trivial, trivial, trivial, trivial, trivial, trivial, trivial, trivial, trivial, trivial, trivial, trivial, trivial⟩)
              ⟨OpOk.quiet rfl ?_, OpOk.quiet rfl ?_, OpOk.quiet rfl ?_, OpOk.call rfl ?_, OpOk.call rfl ?_, OpOk.quiet rfl ?_, OpOk.quiet rfl ?_, OpOk.quiet rfl ?_, OpOk.call rfl ?_, OpOk.call rfl ?_, OpOk.quiet rfl ?_, OpOk.quiet rfl ?_, OpOk.quiet rfl ?_, sk rfl (by kernel_rfl) rfl, sk rfl (by kernel_rfl) rfl, sk rfl (by kernel_rfl) rfl, sk rfl (by kernel_rfl) rfl, sk rfl (by kernel_rfl) rfl, sk rfl (by kernel_rfl) rfl, sk rfl (by kernel_rfl) rfl, sk rfl (by kernel_rfl) rfl, sk rfl (by kernel_rfl) rfl, sk rfl (by kernel_rfl) rfl, sk rfl (by kernel_rfl) rfl, sk rfl (by kernel_rfl) rfl, OpOk.quiet rfl ?_, OpOk.quiet rfl ?_, trivial⟩ ?_
            · intro a_ u hG hf
              simp [facts, Need.fact, Ent.val, Act.eval] at hf
              obtain ⟨y0, y1⟩ := st4.k2 hG 3 rfl
              go_simp
            · intro a_ u hG hf
              simp [facts, Need.fact, Ent.val, Act.eval] at hf
              obtain ⟨y0, y1⟩ := st4.k2 hG 2 rfl
              go_simp
            · intro a_ u hG hf
              simp [facts, Need.fact, Ent.val, Act.eval] at hf
              obtain ⟨y0, y1⟩ := st4.k2 hG 1 rfl
              go_simp
            · intro a_ u hG hf
              simp [facts, Need.fact, Ent.val, Act.eval] at hf
              have hb5 := hG.below
              refine ⟨_, _, by go_simp, (s1 u).mono ?_⟩
              rintro e w' ⟨rfl, hb⟩
              exact ⟨_, rfl, hb, rfl⟩
            · intro a_ u hG hf
              simp [facts, Need.fact, Ent.val, Act.eval] at hf
              have hb5 := hG.below
              refine ⟨_, _, by go_simp, (g1 u).mono ?_⟩
              rintro e w' ⟨rfl, hb⟩
              exact ⟨_, rfl, hb, rfl⟩
            · intro a_ u hG hf
              simp [facts, Need.fact, Ent.val, Act.eval] at hf
              obtain ⟨y0, y1⟩ := st4.k2 hG 3 rfl
              go_simp
            · intro a_ u hG hf
              simp [facts, Need.fact, Ent.val, Act.eval] at hf
              obtain ⟨y0, y1⟩ := st4.k2 hG 2 rfl
              go_simp
            · intro a_ u hG hf
              simp [facts, Need.fact, Ent.val, Act.eval] at hf
              obtain ⟨y0, y1⟩ := st4.k2 hG 0 rfl
              go_simp
            · intro a_ u hG hf
              simp [facts, Need.fact, Ent.val, Act.eval] at hf
              have hb5 := hG.below
              refine ⟨_, _, by go_simp, (s2 u).mono ?_⟩
              rintro e w' ⟨rfl, hb⟩
              exact ⟨_, rfl, hb, rfl⟩
            · intro a_ u hG hf
              simp [facts, Need.fact, Ent.val, Act.eval] at hf
              have hb5 := hG.below
              refine ⟨_, _, by go_simp, (g2 u).mono ?_⟩
              rintro e w' ⟨rfl, hb⟩
              exact ⟨_, rfl, hb, rfl⟩
            iterate 5
              · intro a_ u _ hf
                simp [facts, Need.fact, Ent.val, Act.eval] at hf
                go_simp
            intro u lw hw w5 hKp hE hI hD
            simp only [allE, Ent.val] at hE
            obtain ⟨u0, u1, u2, u3, u4, u5, u6, u7, u8, u9, u10, u11, u12, u13, u14, u15, u16, u17, u18, u19, u20, u21, u22, u23, u24, u25, u26, -⟩ := hE
            simp only [Nat.reduceAdd] at u0 u1 u2 u3 u4 u5 u6 u7 u8 u9 u10 u11 u12 u13 u14 u15 u16 u17 u18 u19 u20 u21 u22 u23 u24 u25 u26
            simp only [allPut, Act.put, Nat.reduceAdd, u0, u1, u2, u3, u4, u5, u6, u7, u8, u9, u10, u11, u12, u13, u14, u15, u16, u17, u18, u19, u20, u21, u22, u23, u24, u25, u26]
            try simp only [List.setIfInBounds_toArray, List.set_cons_zero, List.set_cons_succ]
            clear hI hD u0 u1 u2 u3 u4 u5 u6 u7 u8 u9 u10 u11 u12 u13 u14 u15 u16 u17 u18 u19 u20 u21 u22 u23 u24 u25 u26
            have st5 := st4.keep0 hKp
            clear hKp st4 s1 s2 s3 s4 g1 g2 g3 g4 m1 m2
            go_wp2
            go_ret
            exact ⟨rfl, st5.hb⟩
          case pos =>
            have d1 := decide_eq_true h1
            rw [d1, Bool.true_and] at hr
            subst hr
            refine wp_region_K [] [.val (.agg #[.int .i64 a.1, .int .i64 a.2]), .val (.agg #[.int .i64 b.1, .int .i64 b.2]), .val (.agg #[.int .i64 c.1, .int .i64 c.2]), .val (.int .i64 z1), .val (.int .i64 y1), .val (.agg #[.int .i64 a.1, .int .i64 a.2]), .val (.agg #[.int .i64 b.1, .int .i64 b.2]), .val (.agg #[.int .i64 d.1, .int .i64 d.2]), .val (.int .i64 z2), .val (.int .i64 y2), .val (.int .i64 (y1 * y2)), .val (.bool true), .val (.bool true), .val (.agg #[.int .i64 c.1, .int .i64 c.2]), .val (.agg #[.int .i64 d.1, .int .i64 d.2]), .val (.agg #[.int .i64 a.1, .int .i64 a.2]), .val (.int .i64 z3), .val (.int .i64 y3), .val (.agg #[.int .i64 c.1, .int .i64 c.2]), .val (.agg #[.int .i64 d.1, .int .i64 d.2]), .val (.agg #[.int .i64 b.1, .int .i64 b.2]), .val (.int .i64 z4), .val (.int .i64 y4), .val (.int .i64 (y3 * y4)), .val (.bool (decide (y3 * y4 < 0))), .val (.bool (decide (y3 * y4 < 0))), .val (.bool (decide (y3 * y4 < 0)))]
              [[.ini 4], [.ini 5], [.ini 6], [.frm 0 31, .frm 1 32, .frm 2 33], [.frm 3 34], [.ini 4], [.ini 5], [.ini 7], [.frm 5 36, .frm 6 37, .frm 7 38], [.frm 8 39], [.frm 4 35, .frm 9 40], [.frm 10 41], [.frm 11 42], [.frm 12 43, .ini 6], [.frm 12 43, .ini 7], [.frm 12 43, .ini 4], [.frm 12 43, .frm 13 44, .frm 14 45, .frm 15 46], [.frm 12 43, .frm 16 47], [.frm 12 43, .ini 6], [.frm 12 43, .ini 7], [.frm 12 43, .ini 5], [.frm 12 43, .frm 18 49, .frm 19 50, .frm 20 51], [.frm 12 43, .frm 21 52], [.frm 12 43, .frm 17 48, .frm 22 53], [.frm 12 43, .frm 23 54], [.frm 12 43, .frm 24 55], [.frm 25 56]]
              mixed (by kernel_rfl) (by kernel_rfl) (allPre_of ⟨trivial, trivial, trivial, trivial, trivial, trivial, trivial, trivial, trivial, trivial, trivial, trivial, trivial, trivial, trivial, trivial, trivial, trivial, trivial, trivial, trivial, trivial, trivial, trivial, trivial, trivial, trivial, trivial⟩)
              ⟨OpOk.quiet rfl ?_, OpOk.quiet rfl ?_, OpOk.quiet rfl ?_, OpOk.call rfl ?_, OpOk.call rfl ?_, OpOk.quiet rfl ?_, OpOk.quiet rfl ?_, OpOk.quiet rfl ?_, OpOk.call rfl ?_, OpOk.call rfl ?_, OpOk.quiet rfl ?_, OpOk.quiet rfl ?_, OpOk.quiet rfl ?_, qt rfl (by kernel_rfl) rfl ?_, qt rfl (by kernel_rfl) rfl ?_, qt rfl (by kernel_rfl) rfl ?_, OpOk.callG rfl (by kernel_rfl) (gd rfl) ?_, OpOk.callG rfl (by kernel_rfl) (gd rfl) ?_, qt rfl (by kernel_rfl) rfl ?_, qt rfl (by kernel_rfl) rfl ?_, qt rfl (by kernel_rfl) rfl ?_, OpOk.callG rfl (by kernel_rfl) (gd rfl) ?_, OpOk.callG rfl (by kernel_rfl) (gd rfl) ?_, qt rfl (by kernel_rfl) rfl ?_, qt rfl (by kernel_rfl) rfl ?_, OpOk.quiet rfl ?_, OpOk.quiet rfl ?_, trivial⟩ ?_
            · intro a_ u hG hf
              simp [facts, Need.fact, Ent.val, Act.eval] at hf
              obtain ⟨y0, y1⟩ := st4.k2 hG 3 rfl
              go_simp
            · intro a_ u hG hf
              simp [facts, Need.fact, Ent.val, Act.eval] at hf
              obtain ⟨y0, y1⟩ := st4.k2 hG 2 rfl
              go_simp
            · intro a_ u hG hf
              simp [facts, Need.fact, Ent.val, Act.eval] at hf
              obtain ⟨y0, y1⟩ := st4.k2 hG 1 rfl
              go_simp
            · intro a_ u hG hf
              simp [facts, Need.fact, Ent.val, Act.eval] at hf
              have hb5 := hG.below
              refine ⟨_, _, by go_simp, (s1 u).mono ?_⟩
              rintro e w' ⟨rfl, hb⟩
              exact ⟨_, rfl, hb, rfl⟩
            · intro a_ u hG hf
              simp [facts, Need.fact, Ent.val, Act.eval] at hf
              have hb5 := hG.below
              refine ⟨_, _, by go_simp, (g1 u).mono ?_⟩
              rintro e w' ⟨rfl, hb⟩
              exact ⟨_, rfl, hb, rfl⟩
            · intro a_ u hG hf
              simp [facts, Need.fact, Ent.val, Act.eval] at hf
              obtain ⟨y0, y1⟩ := st4.k2 hG 3 rfl
              go_simp
            · intro a_ u hG hf
              simp [facts, Need.fact, Ent.val, Act.eval] at hf
              obtain ⟨y0, y1⟩ := st4.k2 hG 2 rfl
              go_simp
            · intro a_ u hG hf
              simp [facts, Need.fact, Ent.val, Act.eval] at hf
              obtain ⟨y0, y1⟩ := st4.k2 hG 0 rfl
              go_simp
            · intro a_ u hG hf
              simp [facts, Need.fact, Ent.val, Act.eval] at hf
              have hb5 := hG.below
              refine ⟨_, _, by go_simp, (s2 u).mono ?_⟩
              rintro e w' ⟨rfl, hb⟩
              exact ⟨_, rfl, hb, rfl⟩
            · intro a_ u hG hf
              simp [facts, Need.fact, Ent.val, Act.eval] at hf
              have hb5 := hG.below
              refine ⟨_, _, by go_simp, (g2 u).mono ?_⟩
              rintro e w' ⟨rfl, hb⟩
              exact ⟨_, rfl, hb, rfl⟩
            iterate 3
              · intro a_ u _ hf
                simp [facts, Need.fact, Ent.val, Act.eval] at hf
                go_simp
            · intro a_ u hG hf
              simp [facts, Need.fact, Ent.val, Act.eval] at hf
              obtain ⟨y0, y1⟩ := st4.k2 hG 1 rfl
              go_simp
            · intro a_ u hG hf
              simp [facts, Need.fact, Ent.val, Act.eval] at hf
              obtain ⟨y0, y1⟩ := st4.k2 hG 0 rfl
              go_simp
            · intro a_ u hG hf
              simp [facts, Need.fact, Ent.val, Act.eval] at hf
              obtain ⟨y0, y1⟩ := st4.k2 hG 3 rfl
              go_simp
            · intro a_ u hG hf
              simp [facts, Need.fact, Ent.val, Act.eval] at hf
              have hb5 := hG.below
              refine ⟨_, _, by go_simp, (s3 u).mono ?_⟩
              rintro e w' ⟨rfl, hb⟩
              exact ⟨_, rfl, hb, rfl⟩
            · intro a_ u hG hf
              simp [facts, Need.fact, Ent.val, Act.eval] at hf
              have hb5 := hG.below
              refine ⟨_, _, by go_simp, (g3 u).mono ?_⟩
              rintro e w' ⟨rfl, hb⟩
              exact ⟨_, rfl, hb, rfl⟩
            · intro a_ u hG hf
              simp [facts, Need.fact, Ent.val, Act.eval] at hf
              obtain ⟨y0, y1⟩ := st4.k2 hG 1 rfl
              go_simp
            · intro a_ u hG hf
              simp [facts, Need.fact, Ent.val, Act.eval] at hf
              obtain ⟨y0, y1⟩ := st4.k2 hG 0 rfl
              go_simp
            · intro a_ u hG hf
              simp [facts, Need.fact, Ent.val, Act.eval] at hf
              obtain ⟨y0, y1⟩ := st4.k2 hG 2 rfl
              go_simp
            · intro a_ u hG hf
              simp [facts, Need.fact, Ent.val, Act.eval] at hf
              have hb5 := hG.below
              refine ⟨_, _, by go_simp, (s4 u).mono ?_⟩
              rintro e w' ⟨rfl, hb⟩
              exact ⟨_, rfl, hb, rfl⟩
            · intro a_ u hG hf
              simp [facts, Need.fact, Ent.val, Act.eval] at hf
              have hb5 := hG.below
              refine ⟨_, _, by go_simp, (g4 u).mono ?_⟩
              rintro e w' ⟨rfl, hb⟩
              exact ⟨_, rfl, hb, rfl⟩
            · intro a_ u _ hf
              simp [facts, Need.fact, Ent.val, Act.eval] at hf
              go_simp
            · intro a_ u _ hf
              simp [facts, Need.fact, Ent.val, Act.eval] at hf
              go_simp
            iterate 2
              · intro a_ u _ hf
                simp [facts, Need.fact, Ent.val, Act.eval] at hf
                go_simp
            intro u lw hw w5 hKp hE hI hD
            simp only [allE, Ent.val] at hE
            obtain ⟨u0, u1, u2, u3, u4, u5, u6, u7, u8, u9, u10, u11, u12, u13, u14, u15, u16, u17, u18, u19, u20, u21, u22, u23, u24, u25, u26, -⟩ := hE
            simp only [Nat.reduceAdd] at u0 u1 u2 u3 u4 u5 u6 u7 u8 u9 u10 u11 u12 u13 u14 u15 u16 u17 u18 u19 u20 u21 u22 u23 u24 u25 u26
            simp only [allPut, Act.put, Nat.reduceAdd, u0, u1, u2, u3, u4, u5, u6, u7, u8, u9, u10, u11, u12, u13, u14, u15, u16, u17, u18, u19, u20, u21, u22, u23, u24, u25, u26]
            try simp only [List.setIfInBounds_toArray, List.set_cons_zero, List.set_cons_succ]
            clear hI hD u0 u1 u2 u3 u4 u5 u6 u7 u8 u9 u10 u11 u12 u13 u14 u15 u16 u17 u18 u19 u20 u21 u22 u23 u24 u25 u26
            have st5 := st4.keep0 hKp
            clear hKp st4 s1 s2 s3 s4 g1 g2 g3 g4 m1 m2
            go_wp2
            go_ret
            exact ⟨rfl, st5.hb⟩
set_option maxHeartbeats 1000000 in
theorem glf_c {a b p : Int × Int} (ha : Bs a) (hb : Bs b) (hp : Bs p) (w : World) :
    Calls Tryz.prog 55 #[.agg #[.int .i64 a.1, .int .i64 a.2], .agg #[.int .i64 b.1, .int .i64 b.2], .agg #[.int .i64 p.1, .int .i64 p.2]] w fun e w' => e = .returned (.bool (glf a b p)) ∧ Below w.heap.size w w' := by
  have s1 := fun u => gsd_c ha hb hp u
  have s2 := fun u => gsd_c hb ha hp u
  obtain ⟨r, hr⟩ : ∃ r, glf a b p = r := ⟨_, rfl⟩
  rw [hr]
  unfold glf at hr
  by_cases hsw : b.2 < a.2
  case pos =>
    rw [if_pos hsw] at hr
    have st0 := (((Blk.nil w).push rfl #[.int .i64 b.1, .int .i64 b.2] 27).push (b := w.heap.size + 1) (by simp) #[.int .i64 a.1, .int .i64 a.2] 27).push (b := w.heap.size + 1 + 1) (by simp) #[.int .i64 p.1, .int .i64 p.2] 27
    by_cases c1 : b.2 ≤ p.2
    case neg =>
      rw [decide_eq_false (by omega)] at hr
      subst hr
      have d1 := decide_eq_false c1
      go_enter Tryz.func55, Tryz.ntmps55
      go_wp2
      go_ret
      exact ⟨rfl, st0.hb⟩
    by_cases c2 : p.2 < a.2
    case neg =>
      rw [decide_eq_false (by omega)] at hr
      subst hr
      have d2 := decide_eq_false c2
      go_enter Tryz.func55, Tryz.ntmps55
      go_wp2
      go_ret
      exact ⟨rfl, st0.hb⟩
    obtain ⟨c00, c01⟩ := st0.c2 0 rfl
    obtain ⟨c10, c11⟩ := st0.c2 1 rfl
    obtain ⟨c20, c21⟩ := st0.c2 2 rfl
    go_enter Tryz.func55, Tryz.ntmps55
    go_wp2_with (go_at_call 41; refine JR.StopY.out ?_)
    refine ⟨?_⟩
    refine (s2 _).mono ?_
    rintro e w1 ⟨rfl, hb⟩
    have st1 := st0.ext hb
    clear c00 c01 c10 c11 c20 c21 hb st0
    obtain ⟨c00, c01⟩ := st1.c2 0 rfl
    obtain ⟨c10, c11⟩ := st1.c2 1 rfl
    obtain ⟨c20, c21⟩ := st1.c2 2 rfl
    clear s1 s2
    subst hr
    generalize hz : gsd b a p = z
    go_wp2
    go_ret
    refine ⟨congrArg (fun b => Ending.returned (Value.bool b)) (?_ : _ = _), st1.hb⟩
    subst hz
    rw [Bool.eq_iff_iff]
    simp [c1, c2]
  case neg =>
    rw [if_neg hsw] at hr
    have st0 := (((Blk.nil w).push rfl #[.int .i64 a.1, .int .i64 a.2] 27).push (b := w.heap.size + 1) (by simp) #[.int .i64 b.1, .int .i64 b.2] 27).push (b := w.heap.size + 1 + 1) (by simp) #[.int .i64 p.1, .int .i64 p.2] 27
    by_cases c1 : a.2 ≤ p.2
    case neg =>
      rw [decide_eq_false (by omega)] at hr
      subst hr
      have d1 := decide_eq_false c1
      go_enter Tryz.func55, Tryz.ntmps55
      go_wp2
      go_ret
      exact ⟨rfl, st0.hb⟩
    by_cases c2 : p.2 < b.2
    case neg =>
      rw [decide_eq_false (by omega)] at hr
      subst hr
      have d2 := decide_eq_false c2
      go_enter Tryz.func55, Tryz.ntmps55
      go_wp2
      go_ret
      exact ⟨rfl, st0.hb⟩
    obtain ⟨c00, c01⟩ := st0.c2 0 rfl
    obtain ⟨c10, c11⟩ := st0.c2 1 rfl
    obtain ⟨c20, c21⟩ := st0.c2 2 rfl
    go_enter Tryz.func55, Tryz.ntmps55
    go_wp2_with (go_at_call 41; refine JR.StopY.out ?_)
    refine ⟨?_⟩
    refine (s1 _).mono ?_
    rintro e w1 ⟨rfl, hb⟩
    have st1 := st0.ext hb
    clear c00 c01 c10 c11 c20 c21 hb st0
    obtain ⟨c00, c01⟩ := st1.c2 0 rfl
    obtain ⟨c10, c11⟩ := st1.c2 1 rfl
    obtain ⟨c20, c21⟩ := st1.c2 2 rfl
    clear s1 s2
    subst hr
    generalize hz : gsd a b p = z
    go_wp2
    go_ret
    refine ⟨congrArg (fun b => Ending.returned (Value.bool b)) (?_ : _ = _), st1.hb⟩
    subst hz
    rw [Bool.eq_iff_iff]
    simp [c1, c2]
end Go.Proofs.YtcoeiimohkofjaaGreat
set_option linter.unusedSimpArgs false
set_option linter.unusedVariables false
/-! The scene's own rings: the contracts. -/
namespace PF
open Go Go.RowKit JR
theorem SlP.two {w : World} {A : Option Addr} {l : List (Int × Int)} (hk : ∀ k p, l[k]? = some p → ∃ b off, A = some ⟨b, off, none⟩ ∧ w.cell? ⟨b, off + k * 2, none⟩ = some (.int .i64 p.1) ∧ w.cell? ⟨b, off + k * 2 + 1, none⟩ = some (.int .i64 p.2)) {i j : Nat} (hi : i < l.length) (hj : j < l.length) :
    ∃ b off, A = some ⟨b, off, none⟩ ∧ w.cell? ⟨b, off + i * 2, none⟩ = some (.int .i64 (at' l i).1) ∧ w.cell? ⟨b, off + i * 2 + 1, none⟩ = some (.int .i64 (at' l i).2) ∧ w.cell? ⟨b, off + j * 2, none⟩ = some (.int .i64 (at' l j).1) ∧ w.cell? ⟨b, off + j * 2 + 1, none⟩ = some (.int .i64 (at' l j).2) := by
  obtain ⟨b, off, h1, h2, h3⟩ := hk i _ (at_get hi)
  obtain ⟨b', off', h1', h2', h3'⟩ := hk j _ (at_get hj)
  rw [h1] at h1'
  cases h1'
  exact ⟨b, off, h1, h2, h3, h2', h3'⟩
/-- the number of the corner behind corner k -/
def nxi (n k : Nat) : Nat := if k = n - 1 then 0 else k + 1
theorem nxi_lt {n k : Nat} (h : k < n) : nxi n k < n := by unfold nxi; split <;> omega
theorem nxi_mod {n k : Nat} (h : k < n) : Int.tmod ((k : Int) + 1) (n : Int) = (nxi n k : Nat) := by
  have : ((k : Int) + 1) = ((k + 1 : Nat) : Int) := by omega
  rw [this, ← Int.ofNat_tmod]
  unfold nxi
  split
  · have : k + 1 = n := by omega
    rw [this, Nat.mod_self]; 
  · rw [Nat.mod_eq_of_lt (by omega)]
end PF
namespace Go.Proofs.YtcoeiimohkofjaaGreat
open Go.RowKit PF JR
theorem _root_.PF.at_bs {l : List (Int × Int)} (h : ∀ p ∈ l, Bs p) (k : Nat) : Bs (at' l k) := by
  rcases Nat.lt_or_ge k l.length with h1 | h1
  · exact h _ (List.mem_of_getElem? (at_get h1))
  · unfold at' Bs; simp [List.getD, List.getElem?_eq_none h1]
theorem _root_.PF.anyN_step {F : Nat → Bool} {k : Nat} {q : Bool} (h : anyN F k = false) (hq : F k = q) : anyN F (k + 1) = q := by
  show (anyN F k || F k) = q
  rw [h, hq]; rfl
set_option maxRecDepth 100000 in
set_option maxHeartbeats 1000000 in
theorem smt_c (l : List (Int × Int)) (hl : ∀ p ∈ l, Bs p) {a b : Int × Int} (ha : Bs a) (hb : Bs b) (h31 : l.length ≤ 900000000) (v : Value) (w : World) (hv : SlP w v l) :
    Calls Tryz.prog 57 #[v, .agg #[.int .i64 a.1, .int .i64 a.2], .agg #[.int .i64 b.1, .int .i64 b.2]] w fun e w' => e = .returned (.bool (anyN (fun k => gmt (at' l k) (nxp l k) a b) l.length)) ∧ Below w.heap.size w w' := by
  obtain ⟨A, c, rfl, hk⟩ := hv
  have hcall := fun (k : Nat) (u : World) => gmt_c (a := at' l k) (b := at' l (nxi l.length k)) (c := a) (d := b) (at_bs hl k) (at_bs hl _) ha hb u
  obtain ⟨F, hF⟩ : ∃ F : Nat → Bool, (fun k => gmt (at' l k) (nxp l k) a b) = F := ⟨_, rfl⟩
  have hF1 := fun k => congrFun hF k
  simp only [hF]
  simp only [show ∀ k, gmt (at' l k) (at' l (nxi l.length k)) a b = F k from fun k => hF1 k] at hcall
  clear hF hF1 ha hb hl
  have hat := fun (k : Nat) (h : k < l.length) => SlP.two hk h (nxi_lt h)
  clear hk
  generalize l.length = n at *
  have st0 := ((Blk.nil w).push rfl #[.int .i64 a.1, .int .i64 a.2] 27).push (b := w.heap.size + 1) (by simp) #[.int .i64 b.1, .int .i64 b.2] 27
  go_enter Tryz.func57, Tryz.ntmps57
  go_wp2
  go_loopw [10] (fun i wr => ∃ k : Nat, k ≤ n ∧ i = .int .i64 k ∧ anyN F k = false ∧ Blk w wr [(w.heap.size + 1, #[.int .i64 b.1, .int .i64 b.2], 27), (w.heap.size, #[.int .i64 a.1, .int .i64 a.2], 27)]) (fun i _ => n - (intOf i).toNat)
  case atStart => exact ⟨0, Nat.zero_le _, rfl, rfl, st0⟩
  case round =>
    clear st0
    obtain ⟨k, hkl, rfl, ho, hst⟩ := hrel
    rcases Nat.lt_or_ge k n with hlt | hge
    · obtain ⟨bb, off, rfl, g1, g2, g3, g4⟩ := hat k hlt
      have hjl := nxi_lt hlt
      have hmod := nxi_mod hlt
      have hcall := hcall k
      generalize nxi n k = j at *
      have g1 := (hst.hb.cell (World.block_lt_of_cell? w _ g1)).trans g1
      have g2 := (hst.hb.cell (World.block_lt_of_cell? w _ g2)).trans g2
      have g3 := (hst.hb.cell (World.block_lt_of_cell? w _ g3)).trans g3
      have g4 := (hst.hb.cell (World.block_lt_of_cell? w _ g4)).trans g4
      have x0 := hst.cell 1 rfl 0
      have x1 := hst.cell 1 rfl 1
      have y0 := hst.cell 0 rfl 0
      have y1 := hst.cell 0 rfl 1
      simp only [List.getElem?_toArray, List.getElem?_cons_zero, List.getElem?_cons_succ] at x0 x1 y0 y1
      have hlt' : (k : Int) < (n : Int) := by omega
      have hjl' : (j : Int) < (n : Int) := by omega
      have hn0 : ¬ n = 0 := by omega
      go_upto_region 4 with (fail)
      have hw1 : Go.IntKind.i64.wrap ((k : Int) + 1) = (k : Int) + 1 := wrapS (by omega)
      have hw2 : Go.IntKind.i64.wrap ((j : Nat) : Int) = ((j : Nat) : Int) := wrapS (by omega)
      go_still_tail 14, (by kernel_rfl)
      change wpList _ _ _ _ _ wr.drew
      have hst1 := hst.ext (Below.refl wr.heap.size wr).drew
      generalize wr.drew = w1 at *
      clear hst g1 g2 g3 g4 x0 x1 y0 y1 hat
      go_wp2_with (go_at_call 52; refine JR.StopY.out ?_)
      refine ⟨?_⟩
      refine (hcall _).mono ?_
      rintro e w2 ⟨rfl, hb⟩
      have st2 := hst1.ext hb
      clear hb hst1 hcall
      obtain ⟨q, hq⟩ : ∃ q, F k = q := ⟨_, rfl⟩
      rw [hq]
      have hstep := anyN_step ho hq
      cases q with
      | true =>
        have hz := anyN_hit hlt hq
        go_wp2
        go_ret
        exact ⟨by rw [hz]; rfl, st2.hb⟩
      | false =>
        go_wp2
        exact ⟨⟨k + 1, hlt, by go_num, hstep, st2⟩, by simp only [intOf]; omega⟩
    · obtain rfl : k = n := by omega
      go_wp2
      go_ret
      exact ⟨by rw [ho]; rfl, hst.hb⟩
/-- two rings have a point in common -/
def srg (l m : List (Int × Int)) : Bool := anyN (fun i => anyN (fun k => gmt (at' m k) (nxp m k) (at' l i) (nxp l i)) m.length) l.length
set_option maxRecDepth 100000 in
set_option maxHeartbeats 1000000 in
theorem srg_c (l m : List (Int × Int)) (hl : ∀ p ∈ l, Bs p) (hm : ∀ p ∈ m, Bs p) (h31 : l.length ≤ 900000000) (g31 : m.length ≤ 900000000) (v vm : Value) (w : World) (hv : SlP w v l) (hvm : SlP w vm m) :
    Calls Tryz.prog 40 #[v, vm] w fun e w' => e = .returned (.bool (srg l m)) ∧ Below w.heap.size w w' := by
  obtain ⟨A, c, rfl, hk⟩ := hv
  unfold srg
  have hcall := fun (k : Nat) (u : World) (hu : SlP u vm m) => smt_c m hm (a := at' l k) (b := at' l (nxi l.length k)) (at_bs hl k) (at_bs hl _) g31 vm u hu
  obtain ⟨F, hF⟩ : ∃ F : Nat → Bool, (fun i => anyN (fun k => gmt (at' m k) (nxp m k) (at' l i) (nxp l i)) m.length) = F := ⟨_, rfl⟩
  have hF1 := fun k => congrFun hF k
  simp only [hF]
  simp only [show ∀ i, anyN (fun k => gmt (at' m k) (nxp m k) (at' l i) (at' l (nxi l.length i))) m.length = F i from fun k => hF1 k] at hcall
  clear hF hF1 hl hm
  have hat := fun (k : Nat) (h : k < l.length) => SlP.two hk h (nxi_lt h)
  clear hk
  generalize l.length = n at *
  go_enter Tryz.func40, Tryz.ntmps40
  go_wp2
  go_loopw [8] (fun i wr => ∃ k : Nat, k ≤ n ∧ i = .int .i64 k ∧ anyN F k = false ∧ Below w.heap.size w wr) (fun i _ => n - (intOf i).toNat)
  case atStart => exact ⟨0, Nat.zero_le _, rfl, rfl, Below.refl _ _⟩
  case round =>
    obtain ⟨k, hkl, rfl, ho, hst⟩ := hrel
    rcases Nat.lt_or_ge k n with hlt | hge
    · obtain ⟨bb, off, rfl, g1, g2, g3, g4⟩ := hat k hlt
      have hjl := nxi_lt hlt
      have hmod := nxi_mod hlt
      have hcall := hcall k
      generalize nxi n k = j at *
      have g1 := (hst.cell (World.block_lt_of_cell? w _ g1)).trans g1
      have g2 := (hst.cell (World.block_lt_of_cell? w _ g2)).trans g2
      have g3 := (hst.cell (World.block_lt_of_cell? w _ g3)).trans g3
      have g4 := (hst.cell (World.block_lt_of_cell? w _ g4)).trans g4
      have hlt' : (k : Int) < (n : Int) := by omega
      have hjl' : (j : Int) < (n : Int) := by omega
      have hn0 : ¬ n = 0 := by omega
      have hw1 : Go.IntKind.i64.wrap ((k : Int) + 1) = (k : Int) + 1 := wrapS (by omega)
      go_upto_region 4 with (fail)
      go_still_tail 13, (by kernel_rfl)
      change wpList _ _ _ _ _ wr.drew
      have hst1 : Below w.heap.size w wr.drew := hst.trans ((Below.refl wr.heap.size wr).drew.mono hst.size)
      generalize wr.drew = w1 at *
      clear hst g1 g2 g3 g4 hat
      have hcall := hcall w1 (hvm.below hst1)
      go_wp2_with (go_at_call 57; refine JR.StopY.out ?_)
      refine ⟨?_⟩
      refine hcall.mono ?_
      rintro e w2 ⟨rfl, hb⟩
      have st2 := hst1.trans (hb.mono hst1.size)
      clear hb hst1 hcall
      obtain ⟨q, hq⟩ : ∃ q, F k = q := ⟨_, rfl⟩
      rw [hq]
      have hstep := anyN_step ho hq
      cases q with
      | true =>
        have hz := anyN_hit hlt hq
        go_wp2
        go_ret
        exact ⟨by rw [hz]; rfl, st2⟩
      | false =>
        go_wp2
        exact ⟨⟨k + 1, hlt, by go_num, hstep, st2⟩, by simp only [intOf]; omega⟩
    · obtain rfl : k = n := by omega
      go_wp2
      go_ret
      exact ⟨by rw [ho]; rfl, hst⟩
/-- a point in the limits of a scene -/
def okS (p : Int × Int) : Bool := decide (-500 ≤ p.1 ∧ p.1 ≤ 500 ∧ -500 ≤ p.2 ∧ p.2 ≤ 500)
/-- spec.IsScene -/
def iscB (l : List (Int × Int)) (most : Int) : Bool := decide ((l.length : Int) ≤ most) && l.all okS
set_option maxRecDepth 100000 in
set_option maxHeartbeats 1000000 in
theorem isc_c (l : List (Int × Int)) (most : Int) (hl : l.length ≤ 9223372036854775807) (v : Value) (w : World) (hv : SlP w v l) :
    Calls Tryz.prog 17 #[v, .int .i64 most] w fun e w' => e = .returned (.bool (iscB l most)) ∧ Below w.heap.size w w' := by
  obtain ⟨A, c, rfl, hk⟩ := hv
  unfold iscB
  by_cases hm : (l.length : Int) ≤ most
  case neg =>
    have e : ¬ (l.length : Int) ≤ most := hm
    rw [decide_eq_false hm]
    clear hk
    have d1 : decide ((l.length : Int) > most) = true := decide_eq_true (by omega)
    go_enter Tryz.func17, Tryz.ntmps17
    go_wp2
    go_ret
    exact ⟨rfl, Below.refl _ _⟩
  rw [decide_eq_true hm, Bool.true_and]
  have d1 : decide ((l.length : Int) > most) = false := decide_eq_false (by omega)
  have d2 : ¬ (l.length : Int) > most := by omega
  clear hm
  generalize hAns : l.all okS = ans
  go_enter Tryz.func17, Tryz.ntmps17
  go_wp2
  go_loopw [13] (fun i wr => ∃ k : Nat, k ≤ l.length ∧ i = .int .i64 k ∧ (l.take k).all okS = true ∧ Below w.heap.size w wr) (fun i _ => l.length - (intOf i).toNat)
  case atStart => exact ⟨0, Nat.zero_le _, rfl, by simp, Below.refl _ _⟩
  case round =>
    clear d1 d2
    obtain ⟨k, hkl, rfl, hall, hnx⟩ := hrel
    rcases Nat.lt_or_ge k l.length with hlt | hge
    · obtain ⟨p, hp⟩ : ∃ p, l[k]? = some p := ⟨l[k], by simp [hlt]⟩
      obtain ⟨b, off, rfl, h1, h2⟩ := hk k p hp
      have g1 := (hnx.cell (World.block_lt_of_cell? w _ h1)).trans h1
      have g2 := (hnx.cell (World.block_lt_of_cell? w _ h2)).trans h2
      have hB := hnx.alloc hnx.size (.cells #[.int .i64 p.1, .int .i64 p.2] 27)
      clear h1 h2 hk hnx
      cases hok : okS p with
      | false =>
        have hans : ans = false := by
          rw [← hAns]
          cases h : l.all okS with
          | false => rfl
          | true => rw [List.all_eq_true] at h; rw [h p (List.mem_of_getElem? hp)] at hok; cases hok
        have hno := of_decide_eq_false hok
        clear hAns hall hok
        go_wp2
        all_goals first
          | (go_ret; exact ⟨by first | rfl | (rw [hans]; rfl), hB⟩)
          | (exfalso; simp at *; omega)
      | true =>
        have hyes := of_decide_eq_true hok
        have hall' : (l.take (k + 1)).all okS = true := by rw [List.take_add_one, hp]; simp [hall, hok]
        clear hAns hall hok
        obtain ⟨y1, y2, y3, y4⟩ := hyes
        go_wp2
        all_goals first
          | (exfalso; simp at *; omega)
          | skip
        go_roundw
        case rel => exact ⟨k + 1, by omega, by go_num, hall', hB⟩
        case measure => simp [intOf]; omega
    · have hkk : k = l.length := by omega
      subst hkk
      rw [List.take_length] at hall
      rw [hAns] at hall
      clear hk
      go_wp2
      go_ret
      exact ⟨by rw [hall]; rfl, hnx⟩
end Go.Proofs.YtcoeiimohkofjaaGreat
set_option linter.unusedSimpArgs false
set_option linter.unusedVariables false
/-! The scene's own polygons: the contracts of polyEdges, RingSide, PolygonHas, SceneLine. -/
namespace PF
open Go Go.RowKit JR
def cellsE (f : Nat → (Int × Int) × (Int × Int)) (n : Nat) : List Value := (List.range n).flatMap fun k => [.int .i64 (f k).1.1, .int .i64 (f k).1.2, .int .i64 (f k).2.1, .int .i64 (f k).2.2]
theorem cellsE_snoc (f : Nat → (Int × Int) × (Int × Int)) (n : Nat) : cellsE f (n + 1) = cellsE f n ++ [.int .i64 (f n).1.1, .int .i64 (f n).1.2, .int .i64 (f n).2.1, .int .i64 (f n).2.2] := by
  unfold cellsE; rw [List.range_succ]; simp
theorem cellsE_len (f : Nat → (Int × Int) × (Int × Int)) (n : Nat) : (cellsE f n).length = n * 4 := by
  induction n with
  | zero => rfl
  | succ n ih => rw [cellsE_snoc]; simp [ih]; omega
theorem cellsE_get (f : Nat → (Int × Int) × (Int × Int)) {k n : Nat} (h : k < n) : (cellsE f n)[k * 4]? = some (.int .i64 (f k).1.1) ∧ (cellsE f n)[k * 4 + 1]? = some (.int .i64 (f k).1.2) ∧ (cellsE f n)[k * 4 + 2]? = some (.int .i64 (f k).2.1) ∧ (cellsE f n)[k * 4 + 3]? = some (.int .i64 (f k).2.2) := by
  induction n with
  | zero => omega
  | succ n ih =>
    rw [cellsE_snoc]
    rcases Nat.lt_or_ge k n with g | g
    · obtain ⟨e1, e2, e3, e4⟩ := ih g
      have hl := cellsE_len f n
      refine ⟨?_, ?_, ?_, ?_⟩ <;> rw [List.getElem?_append_left (by omega)] <;> assumption
    · obtain rfl : k = n := by omega
      have hl := cellsE_len f k
      refine ⟨?_, ?_, ?_, ?_⟩ <;> rw [List.getElem?_append_right (by omega)] <;> simp [hl]
/-- the slice v holds the n edges f 0, f 1, .. -/
def SlE (w : World) (v : Value) (n : Nat) (f : Nat → (Int × Int) × (Int × Int)) : Prop :=
  ∃ A c, v = .slice A n c ∧ ∀ k, k < n → ∃ b, A = some ⟨b, 0, none⟩ ∧ w.cell? ⟨b, 0 + k * 4, none⟩ = some (.int .i64 (f k).1.1) ∧ w.cell? ⟨b, 0 + k * 4 + 1, none⟩ = some (.int .i64 (f k).1.2) ∧ w.cell? ⟨b, 0 + k * 4 + 2, none⟩ = some (.int .i64 (f k).2.1) ∧ w.cell? ⟨b, 0 + k * 4 + 3, none⟩ = some (.int .i64 (f k).2.2)
theorem SlE.below {w w' : World} {v : Value} {n : Nat} {f : Nat → (Int × Int) × (Int × Int)} (h : SlE w v n f) (hb : Below w.heap.size w w') : SlE w' v n f := by
  obtain ⟨A, c, hv, hk⟩ := h
  refine ⟨A, c, hv, fun k hn => ?_⟩
  obtain ⟨b, hA, h1, h2, h3, h4⟩ := hk k hn
  exact ⟨b, hA, (hb.cell (World.block_lt_of_cell? w _ h1)).trans h1, (hb.cell (World.block_lt_of_cell? w _ h2)).trans h2, (hb.cell (World.block_lt_of_cell? w _ h3)).trans h3, (hb.cell (World.block_lt_of_cell? w _ h4)).trans h4⟩
theorem SlE.own {w : World} {base : Nat} {T : TypeId} {v : Value} {n : Nat} {f : Nat → (Int × Int) × (Int × Int)} (H : w.ownsRow base T 4 v n (cellsE f n)) : SlE w v n f := by
  rcases H.2 with ⟨rfl, h0⟩ | ⟨g, cap, cur, rfl, _⟩
  · subst h0
    exact ⟨none, 0, rfl, fun k hk => by omega⟩
  · refine ⟨_, _, rfl, fun k hk => ?_⟩
    obtain ⟨h1, h2, h3, h4⟩ := cellsE_get f hk
    have a1 := H.cells (g := g) rfl _ _ h1
    have a2 := H.cells (g := g) rfl _ _ h2
    have a3 := H.cells (g := g) rfl _ _ h3
    have a4 := H.cells (g := g) rfl _ _ h4
    have e : ∀ j, (⟨g, 0, none⟩ : Addr).add j = ⟨g, 0 + j, none⟩ := fun j => by unfold Addr.add; split <;> simp_all
    rw [e] at a1 a2 a3 a4
    exact ⟨g, rfl, a1, a2, a3, a4⟩
end PF
namespace Go.Proofs.YtcoeiimohkofjaaGreat
open Go.RowKit PF JR
theorem infoGE : (Tryz.prog.info? 42).map (fun i => (i.zero, i.size, i.bytes)) = some (some (.agg #[.int .i64 0, .int .i64 0, .int .i64 0, .int .i64 0]), 4, 32) := by kernel_rfl
theorem eqGP {p q : Int × Int} {b : Bool} (hb : decide (p = q) = b) (u : World) : (binOp .eql 27 (.agg #[.int .i64 p.1, .int .i64 p.2]) (.agg #[.int .i64 q.1, .int .i64 q.2])).run Tryz.prog u = .ok (.bool b) u := by
  obtain ⟨p1, p2⟩ := p
  obtain ⟨q1, q2⟩ := q
  subst hb
  by_cases e1 : p1 = q1 <;> by_cases e2 : p2 = q2 <;> simp [go_sem, e1, e2]
theorem neGP {p q : Int × Int} {b : Bool} (hb : (!decide (p = q)) = b) (u : World) : (binOp .neq 27 (.agg #[.int .i64 p.1, .int .i64 p.2]) (.agg #[.int .i64 q.1, .int .i64 q.2])).run Tryz.prog u = .ok (.bool b) u := by
  obtain ⟨p1, p2⟩ := p
  obtain ⟨q1, q2⟩ := q
  subst hb
  by_cases e1 : p1 = q1 <;> by_cases e2 : p2 = q2 <;> simp [go_sem, e1, e2]
theorem nxp_in {l : List (Int × Int)} {k : Nat} (h : k + 1 < l.length) : nxp l k = at' l (k + 1) := by unfold nxp; rw [if_neg (by omega)]
theorem four_cells {w : World} {T : TypeId} {a b c d : Value} : ∀ (j : Nat) (u : Value), [a, b, c, d][j]? = some u → (w.alloc (.cells #[a, b, c, d] T)).cell? ((⟨w.heap.size, 0, none⟩ : Addr).add j) = some u :=
  fun j u h => row_cells (heap_alloc_new w _) j u h
set_option maxRecDepth 100000 in
set_option maxHeartbeats 1000000 in
theorem ped_c (l : List (Int × Int)) (h31 : l.length ≤ 900000000) (v : Value) (w : World) (hv : SlP w v l) :
    Calls Tryz.prog 50 #[v] w fun e w' => ∃ v', e = .returned v' ∧ SlE w' v' (nSeg true l) (fun k => (at' l k, nxp l k)) ∧ Below w.heap.size w w' := by
  obtain ⟨A, c, rfl, hk⟩ := hv
  by_cases h3 : l.length < 3
  case pos =>
    have e0 : nSeg true l = 0 := by unfold nSeg; rw [if_pos rfl, if_pos h3]
    rw [e0]
    have d3 : decide ((l.length : Int) < 3) = true := decide_eq_true (by omega)
    have d3' : (l.length : Int) < 3 := by omega
    clear hk e0 h3
    generalize l.length = n at *
    go_enter Tryz.func50, Tryz.ntmps50
    go_wp2
    go_ret
    exact ⟨_, rfl, ⟨none, 0, rfl, fun k hk => by omega⟩, Below.refl _ _⟩
  obtain ⟨i0, hi, hz0, hz1, hz2⟩ := info_parts infoGE
  obtain ⟨f, hf⟩ : ∃ f : Nat → (Int × Int) × (Int × Int), (fun k => (at' l k, nxp l k)) = f := ⟨_, rfl⟩
  have hat := fun (k : Nat) (h : k + 1 < l.length) => SlP.two (i := k) (j := k + 1) hk (by omega) h
  have hz := SlP.two (i := l.length - 1) (j := 0) hk (by omega) (by omega)
  have hfk : ∀ k, k + 1 < l.length → f k = (at' l k, at' l (k + 1)) := fun k h => by rw [← hf, ← nxp_in h]
  have hfl : f (l.length - 1) = (at' l (l.length - 1), at' l 0) := by rw [← hf]; show (_, nxp l (l.length - 1)) = _; unfold nxp; rw [if_pos rfl]
  have hS : nSeg true l = if at' l (l.length - 1) = at' l 0 then l.length - 1 else l.length := by
    unfold nSeg
    rw [if_pos rfl, if_neg h3, at_get (by omega), at_get (by omega)]
    simp
  rw [hS, hf]
  clear hk hf hS
  have d3 : decide ((l.length : Int) < 3) = false := decide_eq_false (by omega)
  have d3' : ¬ (l.length : Int) < 3 := by omega
  generalize at' l (l.length - 1) = pl at *
  generalize at' l 0 = pz at *
  generalize l.length = n at *
  have hn1 : n - 1 < n := by omega
  have hn2 : n ≤ n - 1 + 1 := by omega
  have hw0 : Go.IntKind.i64.wrap ((n : Int) - 1) = ((n - 1 : Nat) : Int) := by rw [wrapS (by omega)]; omega
  generalize n - 1 = m at *
  have hm0 : ¬ n = 0 := by omega
  have hm3 : 0 < n := by omega
  obtain ⟨N, hN⟩ : ∃ N, (if pl = pz then m else n) = N := ⟨_, rfl⟩
  rw [hN]
  have hm1 : (0 : Int) < (n : Int) := by omega
  have hm2 : (m : Int) < (n : Int) := by omega
  go_enter Tryz.func50, Tryz.ntmps50
  go_wp2
  go_loopw [3, 12] (fun v i wr => ∃ k : Nat, k ≤ m ∧ i = .int .i64 k ∧ wr.ownsRow w.heap.size 42 4 v k (cellsE f k) ∧ Below w.heap.size w wr) (fun _ i _ => m - (intOf i).toNat)
  case atStart => exact ⟨0, Nat.zero_le _, rfl, World.ownsRow_nil _ _ _ _, Below.refl _ _⟩
  case round =>
    obtain ⟨k, hkl, rfl, hown, hnx⟩ := hrel
    generalize u3 = vs at *
    rcases Nat.lt_or_ge k m with hlt | hge
    · obtain ⟨bb, off, rfl, g1, g2, g3, g4⟩ := hat k (by omega)
      have g10 := g1
      have g1 := (hnx.cell (World.block_lt_of_cell? w _ g1)).trans g1
      have g2 := (hnx.cell (World.block_lt_of_cell? w _ g2)).trans g2
      have g3 := (hnx.cell (World.block_lt_of_cell? w _ g3)).trans g3
      have g4 := (hnx.cell (World.block_lt_of_cell? w _ g4)).trans g4
      have hlt' : (k : Int) < (m : Int) := by omega
      have hlt2 : (k : Int) < (n : Int) := by omega
      have hlt3 : (k : Int) + 1 < (n : Int) := by omega
      have hw1 : Go.IntKind.i64.wrap ((k : Int) + 1) = (k : Int) + 1 := wrapS (by omega)
      have hk1 : (0 : Int) ≤ (k : Int) + 1 := by omega
      have ht1 : ((k : Int) + 1).toNat = k + 1 := by omega
      clear hat hz
      go_upto_region 7 with (fail)
      have hsz := hnx.size
      have hfg := fun b (hb : vs.ownBlock = some b) => hown.lt b hb
      have hnb : bb ∉ vs.ownBlock.toList := by intro hm; simp at hm; have := (hfg _ hm).1; have hbw : bb < w.heap.size := World.block_lt_of_cell? w _ g10; omega
      have hfk1 := hfk k (by omega)
      refine wp_region_K vs.ownBlock.toList [.val (vs), .val (.slice (some ⟨bb, off, none⟩) n c), .val (.int .i64 (k : Nat)), .val (.pointer (some ⟨bb, off + (k) * 2, none⟩)), .val (.agg #[.int .i64 (at' l k).1, .int .i64 (at' l k).2]), .val (.slice (some ⟨bb, off, none⟩) n c), .val (.int .i64 (k : Nat)), .val (.int .i64 ((k : Int) + 1)), .val (.pointer (some ⟨bb, off + (k + 1) * 2, none⟩)), .val (.agg #[.int .i64 (at' l (k + 1)).1, .int .i64 (at' l (k + 1)).2]), .val (.agg #[.int .i64 (at' l k).1, .int .i64 (at' l k).2, .int .i64 (at' l (k + 1)).1, .int .i64 (at' l (k + 1)).2]), .slc 42 #[.int .i64 (at' l k).1, .int .i64 (at' l k).2, .int .i64 (at' l (k + 1)).1, .int .i64 (at' l (k + 1)).2], .app vs (k) (cellsE f k) w.heap.size 42 4 (k + 1) ((cellsE f k) ++ [.int .i64 (at' l k).1, .int .i64 (at' l k).2, .int .i64 (at' l (k + 1)).1, .int .i64 (at' l (k + 1)).2]), .fnS 27 id]
        [[.ini 3], [.ini 0], [.ini 4], [.frm 1 16, .frm 2 17], [.frm 3 18], [.ini 0], [.ini 4], [.frm 6 21], [.frm 5 20, .frm 7 22], [.frm 8 23], [.frm 4 19, .frm 9 24], [.frm 10 25], [.frm 0 15, .frm 11 26, .til 12], [.frm 12 27]]
        mixed (by kernel_rfl) (by kernel_rfl) (allPre_of ⟨trivial, trivial, trivial, trivial, trivial, trivial, trivial, trivial, trivial, trivial, trivial, trivial, hown, trivial, trivial⟩)
        ⟨OpOk.quiet rfl ?_, OpOk.quiet rfl ?_, OpOk.quiet rfl ?_, OpOk.quiet rfl ?_, OpOk.quiet rfl ?_, OpOk.quiet rfl ?_, OpOk.quiet rfl ?_, OpOk.quiet rfl ?_, OpOk.quiet rfl ?_, OpOk.quiet rfl ?_, OpOk.quiet rfl ?_, slc_run rfl ?_,
         OpOk.app (inf := i0) rfl rfl Tryz.underlying94 hi hz0 hz1 hz2 rfl (by decide) rfl (by intro u hu; simp at hu; rcases hu with rfl | rfl | rfl | rfl <;> rfl) (by unfold maxLen; omega) (by omega) hsz (fun _ hG => hG.size) (fun b hb => (hfg b hb).2)
           (fun b hb => ⟨row_still rfl, row_still rfl, row_still rfl, row_still rfl, row_still rfl, row_still rfl, row_still rfl, row_still rfl, row_still rfl, row_still rfl, row_still rfl, row_none rfl (fun h => (nomatch h)), row_self rfl, (fun _ _ _ _ _ _ _ _ _ h => h), trivial⟩)
           (fun b hb => oldFree_of ⟨.inr (fun h => (nomatch h)), .inr (fun h => (nomatch h)), .inr (fun h => (nomatch h)), .inr (fun h => (nomatch h)), .inr (fun h => (nomatch h)), .inr (fun h => (nomatch h)), .inr (fun h => (nomatch h)), .inr (fun h => (nomatch h)), .inr (fun h => (nomatch h)), .inr (fun h => (nomatch h)), .inr (fun h => (nomatch h)), .inr (fun h => (nomatch h)), .inl rfl, .inr (fun h => (nomatch h)), trivial⟩)
           ?_ (fun _ b _ hb h => Keep.setRow h (.inr (by simp [hb]))), OpOk.fnS rfl ?_, trivial⟩ ?_
      · intro a u _ hf
        simp [facts, Need.fact, Ent.val, Act.eval] at hf
        go_simp
      · intro a u _ hf
        simp [facts, Need.fact, Ent.val, Act.eval] at hf
        go_simp
      · intro a u _ hf
        simp [facts, Need.fact, Ent.val, Act.eval] at hf
        go_simp
      · intro a u _ hf
        simp [facts, Need.fact, Ent.val, Act.eval] at hf
        go_simp
      · intro a u hG hf
        simp [facts, Need.fact, Ent.val, Act.eval] at hf
        have z0 := (hG.cell (World.block_lt_of_cell? _ _ g1) hnb).trans g1
        have z1 := (hG.cell (World.block_lt_of_cell? _ _ g2) hnb).trans g2
        go_simp
      · intro a u _ hf
        simp [facts, Need.fact, Ent.val, Act.eval] at hf
        go_simp
      · intro a u _ hf
        simp [facts, Need.fact, Ent.val, Act.eval] at hf
        go_simp
      · intro a u _ hf
        simp [facts, Need.fact, Ent.val, Act.eval] at hf
        go_simp
      · intro a u _ hf
        simp [facts, Need.fact, Ent.val, Act.eval] at hf
        go_simp
      · intro a u hG hf
        simp [facts, Need.fact, Ent.val, Act.eval] at hf
        have z0 := (hG.cell (World.block_lt_of_cell? _ _ g3) hnb).trans g3
        have z1 := (hG.cell (World.block_lt_of_cell? _ _ g4) hnb).trans g4
        go_simp
      · intro a u _ hf
        simp [facts, Need.fact, Ent.val, Act.eval] at hf
        go_simp
      · intro a u _ hf
        simp [facts, Need.fact, Ent.val, Act.eval] at hf
        go_simp
      · intro a u _ hf
        obtain ⟨⟨_, _, f1⟩, ⟨_, _, b, f2, _, _, f3⟩, f4, -⟩ := hf
        exact ⟨f1, f4, ⟨b, 0, none⟩, 1, f2, row_cells f3⟩
      · intro a u _ _
        go_simp
      intro uu lw hw wc hK hE hI hD
      obtain ⟨v0, v1, v2, v3, v4, v5, v6, v7, v8, v9, v10, ⟨bq, v11, -, -, -⟩, ⟨o7, -⟩, v13, -⟩ := hE
      replace v0 : uu 0 = vs := v0
      replace v1 : uu 1 = .slice (some ⟨bb, off, none⟩) n c := v1
      replace v2 : uu 2 = .int .i64 (k : Nat) := v2
      replace v3 : uu 3 = .pointer (some ⟨bb, off + (k) * 2, none⟩) := v3
      replace v4 : uu 4 = .agg #[.int .i64 (at' l k).1, .int .i64 (at' l k).2] := v4
      replace v5 : uu 5 = .slice (some ⟨bb, off, none⟩) n c := v5
      replace v6 : uu 6 = .int .i64 (k : Nat) := v6
      replace v7 : uu 7 = .int .i64 ((k : Int) + 1) := v7
      replace v8 : uu 8 = .pointer (some ⟨bb, off + (k + 1) * 2, none⟩) := v8
      replace v9 : uu 9 = .agg #[.int .i64 (at' l (k + 1)).1, .int .i64 (at' l (k + 1)).2] := v9
      replace v10 : uu 10 = .agg #[.int .i64 (at' l k).1, .int .i64 (at' l k).2, .int .i64 (at' l (k + 1)).1, .int .i64 (at' l (k + 1)).2] := v10
      replace v13 : uu 13 = uu 12 := by simpa [Ent.fnS, allPut, Act.put, Act.eval, Array.setIfInBounds] using v13
      simp only [allPut, Act.put, v0, v1, v2, v3, v4, v5, v6, v7, v8, v9, v10, v11, v13]
      try simp only [List.setIfInBounds_toArray, List.set_cons_zero, List.set_cons_succ]
      generalize uu 12 = vq at *
      clear v0 v1 v2 v3 v4 v5 v6 v7 v8 v9 v10 v11 v13 hI hD
      have e4 := cellsE_snoc f k
      rw [hfk1] at e4
      simp only at e4
      rw [← e4] at o7
      have hB := Keep.belowX (B := w.heap.size) hK hnx hnx.size (by intro x hx; simp at hx; have := (hfg _ hx).1; omega)
      clear hK hnx hown hfg hnb g1 g2 g3 g4 e4
      go_wp2
      go_roundw
      case rel => exact ⟨k + 1, by omega, by go_num, o7, hB⟩
      case measure => simp [intOf]; omega
    · obtain rfl : k = m := by omega
      obtain ⟨bb, off, rfl, g1, g2, g3, g4⟩ := hz
      have g10 := g1
      have g1 := (hnx.cell (World.block_lt_of_cell? w _ g1)).trans g1
      have g2 := (hnx.cell (World.block_lt_of_cell? w _ g2)).trans g2
      have g3 := (hnx.cell (World.block_lt_of_cell? w _ g3)).trans g3
      have g4 := (hnx.cell (World.block_lt_of_cell? w _ g4)).trans g4
      clear hat hfk hkl hge
      rename_i k' 
      simp only [Nat.zero_mul, Nat.add_zero] at g3 g4
      have hbw : bb < w.heap.size := World.block_lt_of_cell? w _ g10
      go_upto_region 10 with (fail)
      have hnx1 : Below w.heap.size w (wr.alloc (.cells #[.int .i64 pl.1, .int .i64 pl.2] 27)) := hnx.alloc hnx.size _
      have hA : Below wr.heap.size wr (wr.alloc (.cells #[.int .i64 pl.1, .int .i64 pl.2] 27)) := (Below.refl _ wr).alloc (Nat.le_refl _) _
      have hown1 := hown.alloc (.cells #[.int .i64 pl.1, .int .i64 pl.2] 27)
      have hV := heap_alloc_new wr (.cells #[.int .i64 pl.1, .int .i64 pl.2] 27)
      have y0 := cellAt hV 0
      have y1 := cellAt hV 1
      simp only [List.getElem?_toArray, List.getElem?_cons_zero, List.getElem?_cons_succ] at y0 y1
      have g3 := (hA.cell (World.block_lt_of_cell? wr _ g3)).trans g3
      have g4 := (hA.cell (World.block_lt_of_cell? wr _ g4)).trans g4
      have hfq := fun b (hb : vs.ownBlock = some b) => hown.lt b hb
      have hsz0 := hnx.size
      generalize hbq : wr.heap.size = bq at *
      generalize wr.alloc (.cells #[.int .i64 pl.1, .int .i64 pl.2] 27) = w1 at *
      clear g1 g2 hA hown hV hbq hnx
      have hneq := fun (b : Bool) hb u => neGP (p := pl) (q := pz) (b := b) hb u
      have hne : (binOp .neq 27 (.agg #[.int .i64 pl.1, .int .i64 pl.2]) (.agg #[.int .i64 pz.1, .int .i64 pz.2])) = binOp .neq 27 (.agg #[.int .i64 pl.1, .int .i64 pl.2]) (.agg #[.int .i64 pz.1, .int .i64 pz.2]) := rfl
      clear hne
      by_cases hpz : pl = pz
      · subst hpz
        rw [if_pos rfl] at hN
        subst hN
        clear hneq
        go_quiet (fail)
        go_wp2
        go_ret
        exact ⟨_, rfl, SlE.own (hown1.kept (Ext.grown (below_drewN (Below.refl _ _) _) none) (own_no _)), below_drewN hnx1 _⟩
      · rw [if_neg hpz] at hN
        subst hN
        have hneq := hneq true (by simp [hpz])
        go_quiet (fail)
        have hb2 := below_drewN (Below.refl w1.heap.size w1) nq
        have hnx2 : Below w.heap.size w (w1.drewN nq) := below_drewN hnx1 _
        have hown2 := hown1.kept (Ext.grown hb2 none) (own_no _)
        have y0 := (hb2.cell (World.block_lt_of_cell? _ _ y0)).trans y0
        have y1 := (hb2.cell (World.block_lt_of_cell? _ _ y1)).trans y1
        have g3 := (hb2.cell (World.block_lt_of_cell? _ _ g3)).trans g3
        have g4 := (hb2.cell (World.block_lt_of_cell? _ _ g4)).trans g4
        generalize w1.drewN nq = w2 at *
        clear hb2 hnx1 hown1 hneq
        have hsz := hnx2.size
        have hfg := fun b (hb : vs.ownBlock = some b) => hown2.lt b hb
        have hnb : bb ∉ vs.ownBlock.toList := by intro hm; simp at hm; have := (hfg _ hm).1; omega
        have hnq : bq ∉ vs.ownBlock.toList := by intro hm; simp at hm; have := (hfq _ hm).2; omega
        go_upto_region 11 with (fail)
        refine wp_region_K vs.ownBlock.toList [.val (vs), .val (.agg #[.int .i64 pl.1, .int .i64 pl.2]), .val (.slice (some ⟨bb, off, none⟩) n c), .val (.pointer (some ⟨bb, off, none⟩)), .val (.agg #[.int .i64 pz.1, .int .i64 pz.2]), .val (.agg #[.int .i64 pl.1, .int .i64 pl.2, .int .i64 pz.1, .int .i64 pz.2]), .slc 42 #[.int .i64 pl.1, .int .i64 pl.2, .int .i64 pz.1, .int .i64 pz.2], .app vs (k) (cellsE f k) w.heap.size 42 4 (k + 1) ((cellsE f k) ++ [.int .i64 pl.1, .int .i64 pl.2, .int .i64 pz.1, .int .i64 pz.2]), .fnS 47 id]
          [[.ini 3], [.ini 5], [.ini 0], [.frm 2 42], [.frm 3 43], [.frm 1 41, .frm 4 44], [.frm 5 45], [.frm 0 40, .frm 6 46, .til 7], [.frm 7 47]]
          mixed (by kernel_rfl) (by kernel_rfl) (allPre_of ⟨trivial, trivial, trivial, trivial, trivial, trivial, trivial, hown2, trivial, trivial⟩)
          ⟨OpOk.quiet rfl ?_, OpOk.quiet rfl ?_, OpOk.quiet rfl ?_, OpOk.quiet rfl ?_, OpOk.quiet rfl ?_, OpOk.quiet rfl ?_, slc_run rfl ?_,
           OpOk.app (inf := i0) rfl rfl Tryz.underlying94 hi hz0 hz1 hz2 rfl (by decide) rfl (by intro u hu; simp at hu; rcases hu with rfl | rfl | rfl | rfl <;> rfl) (by unfold maxLen; omega) (by omega) hsz (fun _ hG => hG.size) (fun b hb => (hfg b hb).2)
             (fun b hb => ⟨row_still rfl, row_still rfl, row_still rfl, row_still rfl, row_still rfl, row_still rfl, row_none rfl (fun h => (nomatch h)), row_self rfl, (fun _ _ _ _ _ _ _ _ _ h => h), trivial⟩)
             (fun b hb => oldFree_of ⟨.inr (fun h => (nomatch h)), .inr (fun h => (nomatch h)), .inr (fun h => (nomatch h)), .inr (fun h => (nomatch h)), .inr (fun h => (nomatch h)), .inr (fun h => (nomatch h)), .inr (fun h => (nomatch h)), .inl rfl, .inr (fun h => (nomatch h)), trivial⟩)
             ?_ (fun _ b _ hb h => Keep.setRow h (.inr (by simp [hb]))), OpOk.fnS rfl ?_, trivial⟩ ?_
        · intro a u _ hf
          simp [facts, Need.fact, Ent.val, Act.eval] at hf
          go_simp
        · intro a u hG hf
          simp [facts, Need.fact, Ent.val, Act.eval] at hf
          have z0 := (hG.cell (World.block_lt_of_cell? _ _ y0) hnq).trans y0
          have z1 := (hG.cell (World.block_lt_of_cell? _ _ y1) hnq).trans y1
          go_simp
        · intro a u _ hf
          simp [facts, Need.fact, Ent.val, Act.eval] at hf
          go_simp
        · intro a u _ hf
          simp [facts, Need.fact, Ent.val, Act.eval] at hf
          go_simp
        · intro a u hG hf
          simp [facts, Need.fact, Ent.val, Act.eval] at hf
          have z0 := (hG.cell (World.block_lt_of_cell? _ _ g3) hnb).trans g3
          have z1 := (hG.cell (World.block_lt_of_cell? _ _ g4) hnb).trans g4
          go_simp
        · intro a u _ hf
          simp [facts, Need.fact, Ent.val, Act.eval] at hf
          go_simp
        · intro a u _ hf
          simp [facts, Need.fact, Ent.val, Act.eval] at hf
          go_simp
        · intro a u _ hf
          obtain ⟨⟨_, _, f1⟩, ⟨_, _, b, f2, _, _, f3⟩, f4, -⟩ := hf
          exact ⟨f1, f4, ⟨b, 0, none⟩, 1, f2, row_cells f3⟩
        · intro a u _ _
          go_simp
        intro uu lw hw wc hK hE hI hD
        obtain ⟨v0, v1, v2, v3, v4, v5, ⟨bq, v6, -, -, -⟩, ⟨o7, -⟩, v8, -⟩ := hE
        replace v0 : uu 0 = vs := v0
        replace v1 : uu 1 = .agg #[.int .i64 pl.1, .int .i64 pl.2] := v1
        replace v2 : uu 2 = .slice (some ⟨bb, off, none⟩) n c := v2
        replace v3 : uu 3 = .pointer (some ⟨bb, off, none⟩) := v3
        replace v4 : uu 4 = .agg #[.int .i64 pz.1, .int .i64 pz.2] := v4
        replace v5 : uu 5 = .agg #[.int .i64 pl.1, .int .i64 pl.2, .int .i64 pz.1, .int .i64 pz.2] := v5
        replace v8 : uu 8 = uu 7 := by simpa [Ent.fnS, allPut, Act.put, Act.eval, Array.setIfInBounds] using v8
        simp only [allPut, Act.put, v0, v1, v2, v3, v4, v5, v6, v8]
        try simp only [List.setIfInBounds_toArray, List.set_cons_zero, List.set_cons_succ]
        generalize uu 7 = vq at *
        clear v0 v1 v2 v3 v4 v5 v6 v8 hI hD
        have e4 := cellsE_snoc f k
        rw [hfl] at e4
        simp only at e4
        rw [← e4] at o7
        have hB := Keep.belowX (B := w.heap.size) hK hnx2 hnx2.size (by intro x hx; simp at hx; have := (hfg _ hx).1; omega)
        clear hK hnx2 hown2 hfg hfq hnb hnq g3 g4 y0 y1 e4
        obtain rfl : n = k + 1 := by omega
        go_wp2
        go_ret
        exact ⟨_, rfl, SlE.own o7, hB⟩
/-- spec.RingSide -/
def rsd (l : List (Int × Int)) (p : Int × Int) : Int := if aon l p (nSeg true l) = true then 0 else if xrs l p (nSeg true l) = true then 1 else -1
set_option maxRecDepth 100000 in
set_option maxHeartbeats 1000000 in
theorem rsd_c (l : List (Int × Int)) (hl : ∀ p ∈ l, Bs p) {p : Int × Int} (hp : Bs p) (h31 : l.length ≤ 900000000) (v : Value) (w : World) (hv : SlP w v l) :
    Calls Tryz.prog 32 #[v, .agg #[.int .i64 p.1, .int .i64 p.2]] w fun e w' => e = .returned (.int .i64 (rsd l p)) ∧ Below w.heap.size w w' := by
  have hb1 : ∀ k, Bs (nxp l k) := fun k => by unfold nxp; exact at_bs hl _
  have hc1 := fun (k : Nat) (u : World) => gon_c (a := at' l k) (b := nxp l k) (p := p) (at_bs hl k) (hb1 k) hp u
  have hc2 := fun (k : Nat) (u : World) => glf_c (a := at' l k) (b := nxp l k) (p := p) (at_bs hl k) (hb1 k) hp u
  have hped := fun u hu => ped_c l h31 v u hu
  obtain ⟨A, c, rfl, hk⟩ := id hv
  simp only [gon_rc, show ∀ k, rcOn (at' l k).1 (at' l k).2 (nxp l k).1 (nxp l k).2 p.1 p.2 = ron l p k from fun k => rfl] at hc1
  simp only [glf_rc, show ∀ k, rcIn (at' l k).1 (at' l k).2 (nxp l k).1 (nxp l k).2 p.1 p.2 = rin l p k from fun k => rfl] at hc2
  have hS : nSeg true l ≤ 900000000 := by unfold nSeg; split <;> (try split) <;> (try split) <;> omega
  obtain ⟨ans, hans⟩ : ∃ a, rsd l p = a := ⟨_, rfl⟩
  rw [hans]
  unfold rsd at hans
  clear hb1 hk hl hp
  generalize nSeg true l = N at *
  have st0 := (Blk.nil w).push rfl #[.int .i64 p.1, .int .i64 p.2] 27
  have hv0 := hv.below st0.hb
  generalize l.length = n at *
  go_enter Tryz.func32, Tryz.ntmps32
  go_wp2_with (go_at_call 50; refine JR.StopY.out ?_)
  refine ⟨?_⟩
  refine (hped _ hv0).mono ?_
  rintro e w1 ⟨v', rfl, hE, hb⟩
  have st1 := st0.ext hb
  obtain ⟨A', c', rfl, hk⟩ := id hE
  clear hb st0 hv0 hped hv
  go_wp2
  go_loopw [5, 11] (fun q i wr => ∃ k : Nat, k ≤ N ∧ i = .int .i64 k ∧ q = .bool (xrs l p k) ∧ aon l p k = false ∧ Blk w wr [(w.heap.size, #[.int .i64 p.1, .int .i64 p.2], 27)] ∧ SlE wr (.slice A' N c') N (fun k => (at' l k, nxp l k))) (fun _ i _ => N - (intOf i).toNat)
  case atStart => exact ⟨0, Nat.zero_le _, rfl, rfl, rfl, st1, hE⟩
  case round =>
    clear st1 hE hk
    obtain ⟨k, hkl, rfl, rfl, ho, hst, hE⟩ := hrel
    rcases Nat.lt_or_ge k N with hlt | hge
    · obtain ⟨A2, c2, hAc, hk⟩ := id hE
      cases hAc
      obtain ⟨bb, rfl, g1, g2, g3, g4⟩ := hk k hlt
      simp only [Nat.zero_add] at g1 g2 g3 g4
      have hc1 := hc1 k
      have hc2 := hc2 k
      have hlt' : (k : Int) < (N : Int) := by omega
      have st2 := hst.push (b := wr.heap.size) rfl #[.int .i64 (at' l k).1, .int .i64 (at' l k).2, .int .i64 (nxp l k).1, .int .i64 (nxp l k).2] 42
      have hE2 := hE.below ((Below.refl wr.heap.size wr).alloc (Nat.le_refl _) (.cells #[.int .i64 (at' l k).1, .int .i64 (at' l k).2, .int .i64 (nxp l k).1, .int .i64 (nxp l k).2] 42))
      have y0 := st2.cell 1 rfl 0
      have y1 := st2.cell 1 rfl 1
      simp only [List.getElem?_toArray, List.getElem?_cons_zero, List.getElem?_cons_succ] at y0 y1
      clear hk hst hE
      go_wp2_with (go_at_call 54; refine JR.StopY.out ?_)
      refine ⟨?_⟩
      refine (hc1 _).mono ?_
      rintro e w2 ⟨rfl, hb⟩
      have st3 := st2.ext hb
      have hE3 := hE2.below hb
      clear hb st2 hE2 hc1 g1 g2 g3 g4 y0 y1
      have x0 := st3.cell 0 rfl 0
      have x1 := st3.cell 0 rfl 1
      have x2 := st3.cell 0 rfl 2
      have x3 := st3.cell 0 rfl 3
      have y0 := st3.cell 1 rfl 0
      have y1 := st3.cell 1 rfl 1
      simp only [List.getElem?_toArray, List.getElem?_cons_zero, List.getElem?_cons_succ] at x0 x1 x2 x3 y0 y1
      have hstep : aon l p (k + 1) = (aon l p k || ron l p k) := rfl
      have hxtep : xrs l p (k + 1) = (xrs l p k != rin l p k) := rfl
      obtain ⟨q, hq⟩ : ∃ q, ron l p k = q := ⟨_, rfl⟩
      rw [hq]
      cases q with
      | true =>
        rw [if_pos (aon_mono (show aon l p (k + 1) = true by rw [hstep, hq, Bool.or_true]) N (by omega))] at hans
        clear hc2 hstep hxtep
        go_wp2
        go_ret
        exact ⟨by rw [← hans]; rfl, st3.hb⟩
      | false =>
        rw [ho, hq] at hstep
        go_wp2_with (go_at_call 55; refine JR.StopY.out ?_)
        refine ⟨?_⟩
        refine (hc2 _).mono ?_
        rintro e w3 ⟨rfl, hb⟩
        have st4 := (st3.ext hb).tail
        have hE4 := hE3.below hb
        clear hb st3 hE3 hc2 x0 x1 x2 x3 y0 y1
        generalize rin l p k = r at *
        generalize xrs l p k = x at *
        go_wp2
        exact ⟨⟨k + 1, hlt, by go_num, by rw [hxtep]; cases x <;> cases r <;> rfl, hstep, st4, hE4⟩, by simp only [intOf]; omega⟩
    · obtain rfl : k = N := by omega
      rw [if_neg (by rw [ho]; decide)] at hans
      generalize xrs l p k = x at *
      cases x with
      | true =>
        go_wp2
        go_ret
        exact ⟨by rw [← hans]; rfl, hst.hb⟩
      | false =>
        go_wp2
        go_ret
        exact ⟨by rw [← hans]; rfl, hst.hb⟩
/-- spec.PolygonHas -/
def phs (l : List (Int × Int)) (H : List (List (Int × Int))) (p : Int × Int) : Bool := decide (0 ≤ rsd l p) && !anyN (fun k => decide (0 < rsd (H.getD k []) p)) H.length
theorem SlH_at {w : World} {A : Option Addr} {H : List (List (Int × Int))} (hk : ∀ k h, H[k]? = some h → ∃ b off vh, A = some ⟨b, off, none⟩ ∧ w.cell? ⟨b, off + k, none⟩ = some vh ∧ SlP w vh h) {k : Nat} (h : k < H.length) :
    ∃ b off vh, A = some ⟨b, off, none⟩ ∧ w.cell? ⟨b, off + k, none⟩ = some vh ∧ SlP w vh (H.getD k []) :=
  hk k _ (by rw [List.getD_eq_getElem?_getD, List.getElem?_eq_getElem h]; rfl)
set_option maxRecDepth 100000 in
set_option maxHeartbeats 1000000 in
theorem phs_c (l : List (Int × Int)) (H : List (List (Int × Int))) (hl : ∀ p ∈ l, Bs p) (hH : ∀ k, ∀ p ∈ H.getD k [], Bs p) {p : Int × Int} (hp : Bs p) (h31 : l.length ≤ 900000000) (hH31 : ∀ k, (H.getD k []).length ≤ 900000000) (hHl : H.length ≤ 900000000) (v vh : Value) (w : World) (hv : SlP w v l) (hvh : SlH w vh H) :
    Calls Tryz.prog 56 #[.agg #[v, vh], .agg #[.int .i64 p.1, .int .i64 p.2]] w fun e w' => e = .returned (.bool (phs l H p)) ∧ Below w.heap.size w w' := by
  have hc1 := fun u hu => rsd_c l hl hp h31 v u hu
  have hc2 := fun (k : Nat) z u hu => rsd_c (H.getD k []) (hH k) hp (hH31 k) z u hu
  obtain ⟨A, c, rfl, hk⟩ := id hvh
  obtain ⟨A1, c1, rfl, -⟩ := id hv
  have hat := fun (k : Nat) (h : k < H.length) => SlH_at hk h
  unfold phs
  obtain ⟨F, hF⟩ : ∃ F : Nat → Bool, (fun k => decide (0 < rsd (H.getD k []) p)) = F := ⟨_, rfl⟩
  have hF1 : ∀ k, decide (0 < rsd (H.getD k []) p) = F k := fun k => congrFun hF k
  simp only [hF]
  have st0 := ((Blk.nil w).push rfl #[.slice A1 l.length c1, .slice A H.length c] 25).push (b := w.heap.size + 1) (by simp) #[.int .i64 p.1, .int .i64 p.2] 27
  have hv0 := hv.below st0.hb
  clear hF hl hH hH31 hk hvh hv
  generalize H.length = N at *
  generalize l.length = n1 at *
  generalize rsd l p = r0 at *
  obtain ⟨ans, hans⟩ : ∃ a, (decide (0 ≤ r0) && !anyN F N) = a := ⟨_, rfl⟩
  rw [hans]
  go_enter Tryz.func56, Tryz.ntmps56
  go_wp2_with (go_at_call 32; refine JR.StopY.out ?_)
  refine ⟨?_⟩
  refine (hc1 _ hv0).mono ?_
  rintro e w1 ⟨rfl, hb⟩
  have st1 := st0.ext hb
  clear hb st0 hv0 hc1
  by_cases hr : r0 < 0
  · rw [show decide (0 ≤ r0) = false from decide_eq_false (by omega), Bool.false_and] at hans
    subst hans
    go_wp2
    go_ret
    exact ⟨rfl, st1.hb⟩
  rw [show decide (0 ≤ r0) = true from decide_eq_true (by omega), Bool.true_and] at hans
  have x0 := st1.cell 1 rfl 0
  have x1 := st1.cell 1 rfl 1
  simp only [List.getElem?_toArray, List.getElem?_cons_zero, List.getElem?_cons_succ] at x0 x1
  go_wp2
  go_loopw [15] (fun i wr => ∃ k : Nat, k ≤ N ∧ i = .int .i64 k ∧ anyN F k = false ∧ Blk w wr [(w.heap.size + 1, #[.int .i64 p.1, .int .i64 p.2], 27), (w.heap.size, #[.slice A1 n1 c1, .slice A N c], 25)]) (fun i _ => N - (intOf i).toNat)
  case atStart => exact ⟨0, Nat.zero_le _, rfl, rfl, st1⟩
  case round =>
    clear st1 x0 x1
    obtain ⟨k, hkl, rfl, ho, hst⟩ := hrel
    rcases Nat.lt_or_ge k N with hlt | hge
    · obtain ⟨bb, off, vk, rfl, g1, hs⟩ := hat k hlt
      have g1 := (hst.hb.cell (World.block_lt_of_cell? w _ g1)).trans g1
      have hs1 := hs.below hst.hb
      have hc2 := hc2 k
      have hF1 := hF1 k
      have hlt' : (k : Int) < (N : Int) := by omega
      have y0 := hst.cell 0 rfl 0
      have y1 := hst.cell 0 rfl 1
      simp only [List.getElem?_toArray, List.getElem?_cons_zero, List.getElem?_cons_succ] at y0 y1
      clear hat
      generalize rsd (H.getD k []) p = r at *
      go_wp2_with (go_at_call 32; refine JR.StopY.out ?_)
      refine ⟨?_⟩
      refine (hc2 _ _ hs1).mono ?_
      rintro e w2 ⟨rfl, hb⟩
      have st2 := hst.ext hb
      clear hb hst hc2 hs hs1 g1 y0 y1
      obtain ⟨q, hq⟩ : ∃ q, F k = q := ⟨_, rfl⟩
      have hstep := anyN_step ho hq
      rw [hq] at hF1
      cases q with
      | true =>
        have hz := anyN_hit hlt hq
        have hr1 : 0 < r := of_decide_eq_true hF1
        go_wp2
        go_ret
        exact ⟨by rw [← hans, hz]; rfl, st2.hb⟩
      | false =>
        have hr1 : ¬ 0 < r := of_decide_eq_false hF1
        go_wp2
        exact ⟨⟨k + 1, hlt, by go_num, hstep, st2⟩, by simp only [intOf]; omega⟩
    · obtain rfl : k = N := by omega
      go_wp2
      go_ret
      exact ⟨by rw [← hans, ho]; rfl, hst.hb⟩
/-- a segment meets a ring -/
def smB (l : List (Int × Int)) (a b : Int × Int) : Bool := anyN (fun k => gmt (at' l k) (nxp l k) a b) l.length
/-- spec.SceneLine -/
def scGi (l : List (Int × Int)) (H : List (List (Int × Int))) (m : List (Int × Int)) (i : Nat) : Bool := phs l H (at' m i) || (decide (0 < i) && (smB l (at' m (i - 1)) (at' m i) || anyN (fun j => smB (H.getD j []) (at' m (i - 1)) (at' m i)) H.length))
def scG (l : List (Int × Int)) (H : List (List (Int × Int))) (m : List (Int × Int)) : Bool := anyN (scGi l H m) m.length
set_option maxRecDepth 100000 in
set_option maxHeartbeats 2000000 in
theorem scG_c (l : List (Int × Int)) (H : List (List (Int × Int))) (m : List (Int × Int)) (hl : ∀ p ∈ l, Bs p) (hH : ∀ k, ∀ p ∈ H.getD k [], Bs p) (hm : ∀ p ∈ m, Bs p) (h31 : l.length ≤ 900000000) (hH31 : ∀ k, (H.getD k []).length ≤ 900000000) (hHl : H.length ≤ 900000000) (hm31 : m.length ≤ 900000000) (v vh vm : Value) (w : World) (hv : SlP w v l) (hvh : SlH w vh H) (hvm : SlP w vm m) :
    Calls Tryz.prog 33 #[.agg #[v, vh], vm] w fun e w' => e = .returned (.bool (scG l H m)) ∧ Below w.heap.size w w' := by
  have hc1 := fun i u hu hu2 => phs_c l H hl hH (at_bs hm i) h31 hH31 hHl v vh u hu hu2
  have hc2 := fun i u hu => smt_c l hl (at_bs hm (i - 1)) (at_bs hm i) h31 v u hu
  have hc3 := fun (j i : Nat) z u hu => smt_c (H.getD j []) (hH j) (at_bs hm (i - 1)) (at_bs hm i) (hH31 j) z u hu
  obtain ⟨A, c, rfl, hk⟩ := id hvm
  obtain ⟨A1, c1, rfl, -⟩ := id hv
  obtain ⟨A2, c2, rfl, hkH⟩ := id hvh
  have hat := fun (i : Nat) (h : i < m.length) => SlP.two (i := i) (j := i - 1) hk h (by omega)
  have hatH := fun (k : Nat) (h : k < H.length) => SlH_at hkH h
  unfold scG
  obtain ⟨F, hF⟩ : ∃ F : Nat → Bool, scGi l H m = F := ⟨_, rfl⟩
  have hF1 : ∀ k, F k = (phs l H (at' m k) || (decide (0 < k) && (smB l (at' m (k - 1)) (at' m k) || anyN (fun j => smB (H.getD j []) (at' m (k - 1)) (at' m k)) H.length))) := fun k => by rw [← hF]; rfl
  have hc3 : ∀ (j i : Nat) z u, SlP u z (H.getD j []) → Calls Tryz.prog 57 #[z, .agg #[.int .i64 (at' m (i - 1)).1, .int .i64 (at' m (i - 1)).2], .agg #[.int .i64 (at' m i).1, .int .i64 (at' m i).2]] u fun e w' => e = .returned (.bool (smB (H.getD j []) (at' m (i - 1)) (at' m i))) ∧ Below u.heap.size u w' := hc3
  have hc2 : ∀ (i : Nat) u, SlP u (.slice A1 l.length c1) l → Calls Tryz.prog 57 #[.slice A1 l.length c1, .agg #[.int .i64 (at' m (i - 1)).1, .int .i64 (at' m (i - 1)).2], .agg #[.int .i64 (at' m i).1, .int .i64 (at' m i).2]] u fun e w' => e = .returned (.bool (smB l (at' m (i - 1)) (at' m i))) ∧ Below u.heap.size u w' := hc2
  rw [hF]
  obtain ⟨G, hG⟩ : ∃ G : Nat → Nat → Bool, (fun k j => smB (H.getD j []) (at' m (k - 1)) (at' m k)) = G := ⟨_, rfl⟩
  have hG1 : ∀ k j, smB (H.getD j []) (at' m (k - 1)) (at' m k) = G k j := fun k j => congrFun (congrFun hG k) j
  simp only [hG1] at hF1 hc3
  have hF1 : ∀ k, F k = (phs l H (at' m k) || (decide (0 < k) && (smB l (at' m (k - 1)) (at' m k) || anyN (G k) H.length))) := hF1
  obtain ⟨P, hP⟩ : ∃ P : Nat → Bool, (fun k => phs l H (at' m k)) = P := ⟨_, rfl⟩
  have hP1 : ∀ k, phs l H (at' m k) = P k := fun k => congrFun hP k
  obtain ⟨S, hS⟩ : ∃ S : Nat → Bool, (fun k => smB l (at' m (k - 1)) (at' m k)) = S := ⟨_, rfl⟩
  have hS1 : ∀ k, smB l (at' m (k - 1)) (at' m k) = S k := fun k => congrFun hS k
  simp only [hP1, hS1] at hF1 hc1 hc2
  have st0 := (Blk.nil w).push rfl #[.slice A1 l.length c1, .slice A2 H.length c2] 25
  clear hF hG hP hS hG1 hP1 hS1 hl hH hk hkH hm
  generalize H.length = NH at *
  generalize l.length = n1 at *
  generalize m.length = N at *
  go_enter Tryz.func33, Tryz.ntmps33
  go_wp2
  go_loopw [11] (fun i wr => ∃ k : Nat, k ≤ N ∧ i = .int .i64 k ∧ anyN F k = false ∧ Blk w wr [(w.heap.size, #[.slice A1 n1 c1, .slice A2 NH c2], 25)]) (fun i _ => N - (intOf i).toNat)
  case atStart => exact ⟨0, Nat.zero_le _, rfl, rfl, st0⟩
  case round =>
    clear st0
    obtain ⟨k, hkl, rfl, ho, hst⟩ := hrel
    rcases Nat.lt_or_ge k N with hlt | hge
    · obtain ⟨bb, off, rfl, g1, g2, g3, g4⟩ := hat k hlt
      have g1 := (hst.hb.cell (World.block_lt_of_cell? w _ g1)).trans g1
      have g2 := (hst.hb.cell (World.block_lt_of_cell? w _ g2)).trans g2
      have hlt' : (k : Int) < (N : Int) := by omega
      have hF1 := hF1 k
      have hc1 := hc1 k
      have hc2 := hc2 k
      have hc3 := fun j => hc3 j k
      have st2 := hst.push (b := wr.heap.size) rfl #[.int .i64 (at' m k).1, .int .i64 (at' m k).2] 27
      have x0 := hst.cell 0 rfl 0
      have x1 := hst.cell 0 rfl 1
      simp only [List.getElem?_toArray, List.getElem?_cons_zero, List.getElem?_cons_succ] at x0 x1
      have y0 := st2.cell 1 rfl 0
      have y1 := st2.cell 1 rfl 1
      simp only [List.getElem?_toArray, List.getElem?_cons_zero, List.getElem?_cons_succ] at y0 y1
      have hvu := hv.below st2.hb
      have hhu := hvh.below st2.hb
      clear hat hst
      go_wp2_with (go_at_call 56; refine JR.StopY.out ?_)
      refine ⟨?_⟩
      refine (hc1 _ hvu hhu).mono ?_
      rintro e w2 ⟨rfl, hb⟩
      have st3 := st2.ext hb
      clear hb st2 hc1 g1 g2 x0 x1 y0 y1 hvu hhu
      generalize wr.heap.size = pb at *
      cases hp : P k with
      | true =>
        rw [hp, Bool.true_or] at hF1
        have hz := anyN_hit hlt hF1
        go_wp2
        go_ret
        exact ⟨by rw [hz]; rfl, st3.hb⟩
      | false =>
      rw [hp, Bool.false_or] at hF1
      rcases Nat.eq_zero_or_pos k with rfl | hk0
      · have hstep := anyN_step ho (show F 0 = false by rw [hF1]; rfl)
        go_wp2
        exact ⟨⟨1, hlt, by go_num, hstep, st3.tail⟩, by simp only [intOf]; omega⟩
      rw [show decide (0 < k) = true from decide_eq_true hk0, Bool.true_and] at hF1
      have hk0' : ¬ (k : Int) = 0 := by omega
      have hk0n : ¬ k = 0 := by omega
      have hw1 : Go.IntKind.i64.wrap ((k : Int) - 1) = ((k - 1 : Nat) : Int) := by rw [wrapS (by omega)]; omega
      have hj : ((k - 1 : Nat) : Int) < (N : Int) := by omega
      have g3b := (st3.hb.cell (World.block_lt_of_cell? w _ g3)).trans g3
      have g4b := (st3.hb.cell (World.block_lt_of_cell? w _ g4)).trans g4
      have x0 := st3.cell 1 rfl 0
      have x1 := st3.cell 1 rfl 1
      have y0 := st3.cell 0 rfl 0
      have y1 := st3.cell 0 rfl 1
      simp only [List.getElem?_toArray, List.getElem?_cons_zero, List.getElem?_cons_succ] at x0 x1 y0 y1
      generalize k - 1 = j at *
      go_upto_region 7 with (fail)
      go_still_tail 8, (by kernel_rfl)
      change wpList _ _ _ _ _ w2.drew
      have st4 := st3.ext (Below.refl w2.heap.size w2).drew
      generalize w2.drew = w3 at *
      have hvu := hv.below st4.hb
      clear st3 g3b g4b x0 x1 y0 y1
      go_wp2_with (go_at_call 57; refine JR.StopY.out ?_)
      refine ⟨?_⟩
      refine (hc2 _ hvu).mono ?_
      rintro e w4 ⟨rfl, hb⟩
      have st5 := st4.ext hb
      clear hb st4 hc2 hvu
      cases hs : S k with
      | true =>
        rw [hs, Bool.true_or] at hF1
        have hz := anyN_hit hlt hF1
        go_wp2
        go_ret
        exact ⟨by rw [hz]; rfl, st5.hb⟩
      | false =>
      rw [hs, Bool.false_or] at hF1
      have x0 := st5.cell 1 rfl 0
      have x1 := st5.cell 1 rfl 1
      simp only [List.getElem?_toArray, List.getElem?_cons_zero, List.getElem?_cons_succ] at x0 x1
      go_wp2
      go_loopw [33] (fun i wr => ∃ q : Nat, q ≤ NH ∧ i = .int .i64 q ∧ anyN (G k) q = false ∧ Blk w wr [(pb, #[.int .i64 (at' m k).1, .int .i64 (at' m k).2], 27), (w.heap.size, #[.slice A1 n1 c1, .slice A2 NH c2], 25)]) (fun i _ => NH - (intOf i).toNat)
      case atStart => exact ⟨0, Nat.zero_le _, rfl, rfl, st5⟩
      case round =>
        clear st5 x0 x1
        obtain ⟨q, hql, rfl, hoq, hsq⟩ := hrel
        rcases Nat.lt_or_ge q NH with hltq | hgeq
        · obtain ⟨bh, oh, vk, rfl, h1, hs1⟩ := hatH q hltq
          have h1 := (hsq.hb.cell (World.block_lt_of_cell? w _ h1)).trans h1
          have g3b := (hsq.hb.cell (World.block_lt_of_cell? w _ g3)).trans g3
          have g4b := (hsq.hb.cell (World.block_lt_of_cell? w _ g4)).trans g4
          have hs1 := hs1
          have y0 := hsq.cell 0 rfl 0
          have y1 := hsq.cell 0 rfl 1
          simp only [List.getElem?_toArray, List.getElem?_cons_zero, List.getElem?_cons_succ] at y0 y1
          have hltq' : (q : Int) < (NH : Int) := by omega
          have hc3 := hc3 q vk
          go_upto_region 12 with (fail)
          go_still_tail 7, (by kernel_rfl)
          change wpList _ _ _ _ _ wr.drew
          have st6 := hsq.ext (Below.refl wr.heap.size wr).drew
          generalize wr.drew = w5 at *
          have hvq := hs1.below st6.hb
          clear hsq h1 g3b g4b y0 y1 hs1
          go_wp2_with (go_at_call 57; refine JR.StopY.out ?_)
          refine ⟨?_⟩
          refine (hc3 _ hvq).mono ?_
          rintro e w6 ⟨rfl, hb⟩
          have st7 := st6.ext hb
          clear hb st6 hc3 hvq
          cases hq : G k q with
          | true =>
            rw [anyN_hit hltq hq] at hF1
            have hz := anyN_hit hlt hF1
            go_wp2
            go_ret
            exact ⟨by rw [hz]; rfl, st7.hb⟩
          | false =>
            have hstq := anyN_step hoq hq
            go_wp2
            exact ⟨⟨q + 1, hltq, by go_num, hstq, st7⟩, by simp only [intOf]; omega⟩
        · obtain rfl : q = NH := by omega
          rw [hoq] at hF1
          have hstep := anyN_step ho hF1
          have st8 := hsq.tail
          clear hsq hoq hql hgeq
          go_wp2
          exact ⟨⟨k + 1, hlt, by go_num, hstep, st8⟩, by simp only [intOf]; omega⟩
    · obtain rfl : k = N := by omega
      go_wp2
      go_ret
      exact ⟨by rw [ho]; rfl, hst.hb⟩
end Go.Proofs.YtcoeiimohkofjaaGreat
