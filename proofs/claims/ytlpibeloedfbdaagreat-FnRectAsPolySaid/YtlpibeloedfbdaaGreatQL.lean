import Derived.Test.YtlpibeloedfbdaaGreatQK
import Derived.Test.YtlpibeloedfbdaaGreatQG
import Derived.Test.YtlpibeloedfbdaaGreatQT
set_option linter.unusedSimpArgs false
set_option linter.unusedVariables false
/-! A ring, be it a series of points or a rectangle: its methods. -/
namespace PF
open Go Go.RowKit JR
/-- the functions behind a ring's methods -/
structure RF where
  rect : FuncId
  empty : FuncId
  npts : FuncId
  ptat : FuncId
  nseg : FuncId
  segat : FuncId
  conv : FuncId
  srch : FuncId
structure StpC (p : Prop) : Prop where out : p
theorem stopC (f : FuncId) {P : Program} {args : Array Value} {w : World} {Q : Ending → World → Prop} (h : StpC (Calls P f args w Q)) : Calls P f args w Q := h.out
end PF
namespace Go.Proofs.YtlpibeloedfbdaaGreat
open Go.RowKit PF JR
/-- the method s of a value of type T is f -/
structure Meth (T : TypeId) (s : String) (f : FuncId) : Prop where
  m : ∀ v u, (method 299 T v s).run Tryz.prog u = .ok (f, v) u
  e : ∀ args u, (callFunc f args).run Tryz.prog u = .ok (.enter f args) u
/-- what a search with the closure F keeps to -/
structure SrchR (F : FuncId) (caps : Array Value) (cl : Bool) (l : List (Int × Int)) (w0 : World) (q : Value) (hit : Nat → Bool) (Inv : Nat → World → Prop) (Stop : World → Prop) : Prop where
  ent : ∀ args u, (callFunc F args).run Tryz.prog u = .ok (.enter F args) u
  ser : ∀ k u, Inv k u → ∀ j, j < w0.heap.size → u.heap[j]? = w0.heap[j]?
  ext : ∀ k u u', Inv k u → Ext u u' → Inv k u'
  exs : ∀ u u', Stop u → Ext u u' → Stop u'
  meet : ∀ k u, k < nSeg cl l → Calls Tryz.prog 25 #[.agg #[fl (fb (sgx l k).1), fl (fb (sgx l k).2.1), fl (fb (sgx l k).2.2.1), fl (fb (sgx l k).2.2.2)], q] u fun e u' => e = .returned (.bool (hit k)) ∧ Below u.heap.size u u'
  step : ∀ k u, k < nSeg cl l → hit k = true → Inv k u → Calls Tryz.prog F (#[sgv l k, .int .i64 k] ++ caps) u fun e u' => ∃ c : Bool, e = .returned (.bool c) ∧ (c = true → Inv (k + 1) u') ∧ (c = false → Stop u') ∧ KeepT u u'
  skip : ∀ k u, k < nSeg cl l → hit k = false → Inv k u → Inv (k + 1) u
/-- the value y of type T is a ring (cl: closed) of these points -/
structure RingM (f : RF) (T : TypeId) (y : Value) (cl : Bool) (l : List (Int × Int)) (w : World) : Prop where
  mrect : Meth T "Rect" f.rect
  mempty : Meth T "Empty" f.empty
  mnpts : Meth T "NumPoints" f.npts
  mptat : Meth T "PointAt" f.ptat
  mnseg : Meth T "NumSegments" f.nseg
  msegat : Meth T "SegmentAt" f.segat
  mconv : Meth T "Convex" f.conv
  msrch : Meth T "Search" f.srch
  nils : ∀ u, (nilAhead 299 T y "Search").run Tryz.prog u = .ok (some false) u
  len : l.length ≤ 12
  two : 2 ≤ l.length
  bnd : ∀ p ∈ l, Bnd p
  crect : ∀ u, Below w.heap.size w u → Calls Tryz.prog f.rect #[y] u fun e u' => e = .returned (.agg #[fl (fb (ppB cl l).1), fl (fb (ppB cl l).2.1), fl (fb (ppB cl l).2.2.1), fl (fb (ppB cl l).2.2.2)]) ∧ Below u.heap.size u u'
  cempty : ∀ u, Below w.heap.size w u → Calls Tryz.prog f.empty #[y] u fun e u' => e = .returned (.bool false) ∧ Below u.heap.size u u'
  cnpts : ∀ u, Below w.heap.size w u → Calls Tryz.prog f.npts #[y] u fun e u' => e = .returned (.int .i64 l.length) ∧ Below u.heap.size u u'
  cptat : ∀ k u, k < l.length → Below w.heap.size w u → Calls Tryz.prog f.ptat #[y, .int .i64 k] u fun e u' => e = .returned (.agg #[fl (fb (at' l k).1), fl (fb (at' l k).2)]) ∧ Below u.heap.size u u'
  cnseg : ∀ u, Below w.heap.size w u → Calls Tryz.prog f.nseg #[y] u fun e u' => e = .returned (.int .i64 (nSeg cl l)) ∧ Below u.heap.size u u'
  csegat : ∀ k u, k < nSeg cl l → Below w.heap.size w u → Calls Tryz.prog f.segat #[y, .int .i64 k] u fun e u' => e = .returned (sgv l k) ∧ Below u.heap.size u u'
  cconv : ∀ u, Below w.heap.size w u → Calls Tryz.prog f.conv #[y] u fun e u' => e = .returned (.bool (ppV cl l)) ∧ Below u.heap.size u u'
  csrch : ∀ (F : FuncId) (caps : Array Value) (q0 q1 q2 q3 : Nat) (hit : Nat → Bool) (Inv : Nat → World → Prop) (Stop : World → Prop) (rhit : Bool) (w0 : World), Below w.heap.size w w0 →
    SrchR F caps cl l w0 (.agg #[fl q0, fl q1, fl q2, fl q3]) hit Inv Stop →
    (nSeg cl l ≠ 0 → ∀ u, Calls Tryz.prog 25 #[.agg #[fl q0, fl q1, fl q2, fl q3], .agg #[fl (fb (rbx l (nSeg cl l)).1), fl (fb (rbx l (nSeg cl l)).2.1), fl (fb (rbx l (nSeg cl l)).2.2.1), fl (fb (rbx l (nSeg cl l)).2.2.2)]] u fun e u' => e = .returned (.bool rhit) ∧ Below u.heap.size u u') →
    (rhit = false → ∀ k, k < nSeg cl l → hit k = false) → ∀ u, Inv 0 u →
    Calls Tryz.prog f.srch #[y, .agg #[fl q0, fl q1, fl q2, fl q3], .func (.func F) #[] caps] u fun e u' => e = .returned (.tuple #[]) ∧ (Inv (nSeg cl l) u' ∨ Stop u')
theorem RingM.below {f : RF} {T : TypeId} {y : Value} {cl : Bool} {l : List (Int × Int)} {w w' : World} (H : RingM f T y cl l w) (hb : Below w.heap.size w w') : RingM f T y cl l w' :=
  { H with
    crect := fun u h => H.crect u (hb.trans (h.mono hb.size))
    cempty := fun u h => H.cempty u (hb.trans (h.mono hb.size))
    cnpts := fun u h => H.cnpts u (hb.trans (h.mono hb.size))
    cptat := fun k u hk h => H.cptat k u hk (hb.trans (h.mono hb.size))
    cnseg := fun u h => H.cnseg u (hb.trans (h.mono hb.size))
    csegat := fun k u hk h => H.csegat k u hk (hb.trans (h.mono hb.size))
    cconv := fun u h => H.cconv u (hb.trans (h.mono hb.size))
    csrch := fun F caps q0 q1 q2 q3 hit Inv Stop rhit w0 h => H.csrch F caps q0 q1 q2 q3 hit Inv Stop rhit w0 (hb.trans (h.mono hb.size)) }
/-! ## series -/
theorem kConvex {K : Nat} {closed : Bool} {l : List (Int × Int)} {T : TypeId} {lo hi b : Nat} {w : World} (H : SkP K closed l T lo hi b w) :
    Calls Tryz.prog 154 #[.pointer (some ⟨b, 0, none⟩)] w fun e w' => e = .returned (.bool (ppV closed l)) ∧ Below w.heap.size w w' := by
  obtain ⟨ix, v', -, -, -, h3, h4⟩ := H
  obtain ⟨A, c, rfl⟩ := h4.len
  have x := cellAt h3 2
  simp only [serC, List.getElem?_toArray, List.getElem?_cons_zero, List.getElem?_cons_succ] at x
  clear h3 h4
  generalize ppV closed l = cv at *
  go_enter Tryz.func154, Tryz.ntmps154
  go_wp2
  go_ret
  exact ⟨rfl, Below.refl _ _⟩
theorem kPoint {K : Nat} {closed : Bool} {l : List (Int × Int)} {T : TypeId} {lo hi b : Nat} {w : World} (H : SkP K closed l T lo hi b w) (k : Nat) (hkl : k < l.length) (_ : l.length ≤ 1000) :
    Calls Tryz.prog 135 #[.pointer (some ⟨b, 0, none⟩), .int .i64 k] w fun e w' => e = .returned (.agg #[fl (fb (at' l k).1), fl (fb (at' l k).2)]) ∧ Below w.heap.size w w' := by
  obtain ⟨ix, v', -, -, -, h3, ⟨A, c, rfl, hk⟩⟩ := H
  obtain ⟨g, rfl, -, -, a1, a2⟩ := hk k (at' l k) (at_get hkl)
  have x := cellAt h3 9
  have hsb := lt_of_some h3
  have hg : g < w.heap.size := World.block_lt_of_cell? w _ a1
  have i1 : (k : Int) < (l.length : Int) := by omega
  simp only [serC, Nat.zero_add, List.getElem?_toArray, List.getElem?_cons_zero, List.getElem?_cons_succ] at x a1 a2
  clear h3 hk
  generalize at' l k = p at *
  generalize l.length = n at *
  go_enter Tryz.func135, Tryz.ntmps135
  go_wp2
  exact bodyPost_ret (v := .agg #[fl (fb p.1), fl (fb p.2)]) (by simp [results, Tryz.results135, go_sem]) rfl ⟨rfl, by
    repeat first | exact Below.refl _ _ | refine Below.alloc ?_ (by simp <;> omega) _ | refine Below.setCell ?_ (by simp <;> omega) _⟩
theorem kEmptyC {K : Nat} {cl : Bool} {l : List (Int × Int)} {T : TypeId} {lo hi b : Nat} {w : World} (H : SkP K cl l T lo hi b w) (hn : 2 ≤ l.length) (h3n : cl = true → 3 ≤ l.length) :
    Calls Tryz.prog 96 #[.pointer (some ⟨b, 0, none⟩)] w fun e w' => e = .returned (.bool false) ∧ Below w.heap.size w w' := by
  cases cl with
  | false => exact kEmpty H hn
  | true =>
    obtain ⟨ix, v', -, -, -, h, h4⟩ := H
    obtain ⟨A, c, rfl⟩ := h4.len
    have x0 := cellAt h 0
    have x9 := cellAt h 9
    simp only [serC, List.getElem?_toArray, List.getElem?_cons_zero, List.getElem?_cons_succ] at x0 x9
    clear h h4
    have d2 : ¬ (l.length : Int) < 2 := by omega
    have d2' := decide_eq_false d2
    have d3 : ¬ (l.length : Int) < 3 := by have := h3n rfl; omega
    have d3' := decide_eq_false d3
    clear hn h3n
    go_enter Tryz.func96, Tryz.ntmps96
    go_wp2
    go_ret
    exact ⟨rfl, Below.refl _ _⟩
def bsF : RF := ⟨97, 96, 134, 135, 44, 45, 154, 104⟩
theorem bsRing (K : Nat) (hK : K ≤ 2) {cl : Bool} {l : List (Int × Int)} (hl : l.length ≤ 12) (h2l : 2 ≤ l.length) (h3l : cl = true → 3 ≤ l.length) (hbd : ∀ p ∈ l, Bnd p) {T : TypeId} {lo b : Nat} {w : World} (H : SkP K cl l T lo w.heap.size b w) :
    RingM bsF 95 (.pointer (some ⟨b, 0, none⟩)) cl l w where
  mrect := ⟨fun _ _ => by kernel_rfl, fun _ _ => by kernel_rfl⟩
  mempty := ⟨fun _ _ => by kernel_rfl, fun _ _ => by kernel_rfl⟩
  mnpts := ⟨fun _ _ => by kernel_rfl, fun _ _ => by kernel_rfl⟩
  mptat := ⟨fun _ _ => by kernel_rfl, fun _ _ => by kernel_rfl⟩
  mnseg := ⟨fun _ _ => by kernel_rfl, fun _ _ => by kernel_rfl⟩
  msegat := ⟨fun _ _ => by kernel_rfl, fun _ _ => by kernel_rfl⟩
  mconv := ⟨fun _ _ => by kernel_rfl, fun _ _ => by kernel_rfl⟩
  msrch := ⟨fun _ _ => by kernel_rfl, fun _ _ => by kernel_rfl⟩
  nils := fun _ => by kernel_rfl
  len := hl
  two := h2l
  bnd := hbd
  crect := fun u h => kRect (H.below h)
  cempty := fun u h => kEmptyC (H.below h) h2l h3l
  cnpts := fun u h => kNum (H.below h)
  cptat := fun k u hk h => kPoint (H.below h) k hk (by omega)
  cnseg := fun u h => nseg_x (H.below h) (by omega) h2l hbd
  csegat := fun k u hk h => sgat_x (H.below h) (by omega) k hk
  cconv := fun u h => kConvex (H.below h)
  csrch := fun F caps q0 q1 q2 q3 hit Inv Stop rhit w0 hw0 S hroot hpr u h0 => by
    have hs0 := hw0.size
    have H0 := H.below hw0
    obtain ⟨ix, v', g0, g1, g2, g3, g4⟩ := H0
    have H' : SrchOk F caps K cl l T lo w.heap.size b ix v' (.agg #[fl q0, fl q1, fl q2, fl q3]) hit Inv Stop := by
      refine ⟨hl, h2l, S.ent, hbd, ⟨g1, g2⟩, ?_, S.ext, S.exs, S.meet, S.step, S.skip⟩
      intro k z hz
      have hk : ∀ j, lo ≤ j → j < w.heap.size → z.heap[j]? = w0.heap[j]? := fun j _ h2 => S.ser k z hz j (by omega)
      exact ⟨g0.keep fun j h1 h2 _ => hk j h1 h2, (hk b g1 g2).trans g3, g4.keep hk⟩
    exact search_c F caps K hK cl l T lo w.heap.size b q0 q1 q2 q3 ix v' hit Inv Stop rhit H' (fun _ hn u => hroot hn u) hpr u h0
end Go.Proofs.YtlpibeloedfbdaaGreat
set_option linter.unusedSimpArgs false
set_option linter.unusedVariables false
/-! A rectangle as a ring (printed by gen/lb.py). -/
namespace PF
/-- a rectangle's points -/
def rl (a b c d : Int) : List (Int × Int) := [(a, b), (c, b), (c, d), (a, d), (a, b)]
theorem rl_box {a b c d : Int} (h1 : a ≤ c) (h2 : b ≤ d) : ppB true (rl a b c d) = (a, b, c, d) := by
  unfold ppB
  rw [if_neg (by simp [tooS, rl])]
  simp [box, rl, bxs, at', Prod.mk.injEq]
  omega
theorem rl_conv {a b c d : Int} (h1 : a < c) (h2 : b < d) : ppV true (rl a b c d) = true := by
  unfold ppV
  rw [if_neg (by simp [tooS, rl])]
  have z0 : 0 < (c - a) * (d - b) := Int.mul_pos (by omega) (by omega)
  have e0 : zcr (a, b) (c, b) (c, d) = (c - a) * (d - b) := by unfold zcr; grind
  have e1 : zcr (c, b) (c, d) (a, d) = (c - a) * (d - b) := by unfold zcr; grind
  have e2 : zcr (c, d) (a, d) (a, b) = (c - a) * (d - b) := by unfold zcr; grind
  have e3 : zcr (a, d) (a, b) (a, b) = 0 := by unfold zcr; grind
  have e4 : zcr (a, b) (a, b) (c, b) = 0 := by unfold zcr; grind
  have hs : ∀ s : Bool × Int, cstep s 0 = s ∨ (s.1 = false ∧ (cstep s 0).1 = false) := by
    intro s; obtain ⟨s1, s2⟩ := s; cases s1 <;> simp [cstep]
  have n1 : nx1 (rl a b c d) 0 = (c, b) := rfl
  show (!(cvs (rl a b c d) 5).1) = true
  have c5 : cvs (rl a b c d) 5 = cstep (cstep (cstep (cstep (cstep (false, 0) (zcr (a, b) (c, b) (c, d))) (zcr (c, b) (c, d) (a, d))) (zcr (c, d) (a, d) (a, b))) (zcr (a, d) (a, b) (a, b))) (zcr (a, b) (a, b) (c, b)) := rfl
  rw [c5, e0, e1, e2, e3, e4]
  have w1 : ¬ ((c - a) * (d - b) < 0) := by omega
  simp [cstep, z0, w1]
end PF
namespace Go.Proofs.YtlpibeloedfbdaaGreat
open Go.RowKit PF JR
theorem rl_seg (a b c d : Int) : nSeg true (rl a b c d) = 4 := by simp [nSeg, rl]
def rcF : RF := ⟨130, 26, 32, 34, 35, 36, 28, 131⟩
theorem rrct_c (x0 y0 x1 y1 : Nat) (w : World) :
    Calls Tryz.prog 130 #[.agg #[fl x0, fl y0, fl x1, fl y1]] w fun e w' => e = .returned (.agg #[fl x0, fl y0, fl x1, fl y1]) ∧ Below w.heap.size w w' := by
  go_enter Tryz.func130, Tryz.ntmps130
  go_wp2
  exact bodyPost_ret (v := .agg #[fl x0, fl y0, fl x1, fl y1]) (by simp [results, Tryz.results130, go_sem]) rfl ⟨rfl, by
    repeat first | exact Below.refl _ _ | refine Below.alloc ?_ (by simp <;> omega) _ | refine Below.setCell ?_ (by simp <;> omega) _⟩
theorem rpat_c (a b c d : Int) (k : Nat) (hk : k < 5) (w : World) :
    Calls Tryz.prog 34 #[.agg #[fl (fb a), fl (fb b), fl (fb c), fl (fb d)], .int .i64 k] w fun e w' => e = .returned (.agg #[fl (fb (at' (rl a b c d) k).1), fl (fb (at' (rl a b c d) k).2)]) ∧ Below w.heap.size w w' := by
  rcases k with _ | _ | _ | _ | _ | k
  · exact pat0_c _ _ _ _ w
  · exact pat1_c _ _ _ _ w
  · exact pat2_c _ _ _ _ w
  · exact pat3_c _ _ _ _ w
  · exact pat4_c _ _ _ _ w
  · omega
theorem rsat_c (a b c d : Int) (k : Nat) (hk : k < 4) (w : World) :
    Calls Tryz.prog 36 #[.agg #[fl (fb a), fl (fb b), fl (fb c), fl (fb d)], .int .i64 k] w fun e w' => e = .returned (sgv (rl a b c d) k) ∧ Below w.heap.size w w' := by
  rcases k with _ | _ | _ | _ | k
  · exact sat0_c _ _ _ _ w
  · exact sat1_c _ _ _ _ w
  · exact sat2_c _ _ _ _ w
  · exact sat3_c _ _ _ _ w
  · omega
set_option maxRecDepth 100000 in
set_option maxHeartbeats 4000000 in
theorem rsearch_c (F : FuncId) (caps : Array Value) (a b c d : Int) (hbd : ∀ p ∈ rl a b c d, Bnd p) (q0 q1 q2 q3 : Nat) (hit : Nat → Bool) (Inv : Nat → World → Prop) (Stop : World → Prop) (w0 : World)
    (H : SrchR F caps true (rl a b c d) w0 (.agg #[fl q0, fl q1, fl q2, fl q3]) hit Inv Stop) (w : World) (h0 : Inv 0 w) :
    Calls Tryz.prog 131 #[.agg #[fl (fb a), fl (fb b), fl (fb c), fl (fb d)], .agg #[fl q0, fl q1, fl q2, fl q3], .func (.func F) #[] caps] w fun e w' => e = .returned (.tuple #[]) ∧ (Inv 4 w' ∨ Stop w') := by
  have hsat := fun k hk u => rsat_c a b c d k hk u
  obtain ⟨l, hl⟩ : ∃ l, rl a b c d = l := ⟨_, rfl⟩
  have hN : nSeg true l = 4 := by rw [← hl]; exact rl_seg a b c d
  rw [hl] at H hbd
  simp only [hl] at hsat
  clear hl
  generalize fb a = r0 at *
  generalize fb b = r1 at *
  generalize fb c = r2 at *
  generalize fb d = r3 at *
  have st0 := ((Blk.nil w).push rfl #[fl r0, fl r1, fl r2, fl r3] 52).push (b := w.heap.size + 1) (by simp) #[fl q0, fl q1, fl q2, fl q3] 52
  have z0 := st0.cell 1 rfl 0
  have z1 := st0.cell 1 rfl 1
  have z2 := st0.cell 1 rfl 2
  have z3 := st0.cell 1 rfl 3
  simp only [List.getElem?_toArray, List.getElem?_cons_zero, List.getElem?_cons_succ] at z0 z1 z2 z3
  have I1 := H.ext 0 _ _ h0 st0.hb
  have R1 := st0.known 0 _ rfl
  have Q1 := st0.known 1 _ rfl
  clear h0
  go_enter Tryz.func131, Tryz.ntmps131
  go_wp2_with (go_at_call 35; refine JR.StopN.out ?_)
  refine ⟨?_⟩
  refine (rns_c _ _ _ _ _).mono ?_
  rintro e w2 ⟨rfl, hb2⟩
  have I2 := H.ext 0 _ _ I1 hb2
  have R2 := (hb2.block _ (lt_of_some R1)).trans R1
  have Q2 := (hb2.block _ (lt_of_some Q1)).trans Q1
  clear hb2 I1 R1 Q1 st0 z0 z1 z2 z3
  generalize hrb : w.heap.size + 1 = rb at *
  generalize w.heap.size = qb at *
  clear hrb
  go_wp2
  go_loopw [6, 8] (fun ix i wr => ∃ k : Nat, k ≤ 4 ∧ ix = .int .i64 k ∧ i = .int .i64 k ∧ Inv k wr ∧ wr.heap[rb]? = some (.cells #[fl q0, fl q1, fl q2, fl q3] 52 (0, 0)) ∧ wr.heap[qb]? = some (.cells #[fl r0, fl r1, fl r2, fl r3] 52 (0, 0))) (fun _ i _ => 4 - (intOf i).toNat)
  case atStart => exact ⟨0, Nat.zero_le _, rfl, rfl, I2, R2, Q2⟩
  case round =>
    clear I2 R2 Q2
    obtain ⟨k, hk, rfl, rfl, I3, R3, Q3⟩ := hrel
    rcases Nat.lt_or_ge k 4 with hlt | hge
    · have hsg := fun u => hsat k hlt u
      have hlt' : (k : Int) < 4 := by omega
      have z0 := cellAt Q3 0
      have z1 := cellAt Q3 1
      have z2 := cellAt Q3 2
      have z3 := cellAt Q3 3
      simp only [List.getElem?_toArray, List.getElem?_cons_zero, List.getElem?_cons_succ] at z0 z1 z2 z3
      go_wp2_with (go_at_call 36; refine JR.StopN.out ?_)
      refine ⟨?_⟩
      refine (hsg _).mono ?_
      rintro e w4 ⟨rfl, hb4⟩
      have I4 := H.ext k _ _ I3 hb4
      have R4 := (hb4.block _ (lt_of_some R3)).trans R3
      have Q4 := (hb4.block _ (lt_of_some Q3)).trans Q3
      clear hsg I3 R3 Q3 hb4 z0 z1 z2 z3
      unfold sgv
      go_wp2_with (with_reducible refine stop_region ?_)
      refine ⟨?_⟩
      have hal := (Below.refl w4.heap.size w4).alloc (Nat.le_refl _) (.cells #[fl (fb (at' l k).1), fl (fb (at' l k).2), fl (fb (nxp l k).1), fl (fb (nxp l k).2)] 73)
      have V4 := heap_alloc_new w4 (.cells #[fl (fb (at' l k).1), fl (fb (at' l k).2), fl (fb (nxp l k).1), fl (fb (nxp l k).2)] 73)
      have I5 := H.ext k _ _ I4 hal
      have R5 := (hal.block _ (lt_of_some R4)).trans R4
      have Q5 := (hal.block _ (lt_of_some Q4)).trans Q4
      clear I4 R4 Q4 hal
      generalize w4.alloc (.cells #[fl (fb (at' l k).1), fl (fb (at' l k).2), fl (fb (nxp l k).1), fl (fb (nxp l k).2)] 73) = w5 at *
      generalize w4.heap.size = s9 at *
      have W0 := cellAt V4 0
      have W1 := cellAt V4 1
      have W2 := cellAt V4 2
      have W3 := cellAt V4 3
      have Y0 := cellAt R5 0
      have Y1 := cellAt R5 1
      have Y2 := cellAt R5 2
      have Y3 := cellAt R5 3
      simp only [List.getElem?_toArray, List.getElem?_cons_zero, List.getElem?_cons_succ] at W0 W1 W2 W3 Y0 Y1 Y2 Y3
      refine wp_region_K [] [.val (.agg #[fl (fb (at' l k).1), fl (fb (at' l k).2), fl (fb (nxp l k).1), fl (fb (nxp l k).2)]),
          .val (.agg #[fl (fb (sgx l k).1), fl (fb (sgx l k).2.1), fl (fb (sgx l k).2.2.1), fl (fb (sgx l k).2.2.2)]),
          .val (.agg #[fl q0, fl q1, fl q2, fl q3]),
          .val (.bool (hit k))]
        [[.ini 9], [.frm 0 20], [.ini 4], [.frm 1 21, .frm 2 22]]
        mixed (by kernel_rfl) (by kernel_rfl) (allPre_of ⟨trivial, trivial, trivial, trivial, trivial⟩)
        ⟨OpOk.quiet rfl ?_,
          OpOk.call rfl ?_,
          OpOk.quiet rfl ?_,
          OpOk.call rfl ?_, trivial⟩ ?_
      · intro a u hG hf
        simp [facts, Need.fact, Ent.val, Act.eval] at hf
        have a0 := (hG.cell (p := ⟨s9, 0, none⟩) (lt_of_some V4) (by simp)).trans W0
        have a1 := (hG.cell (p := ⟨s9, 1, none⟩) (lt_of_some V4) (by simp)).trans W1
        have a2 := (hG.cell (p := ⟨s9, 2, none⟩) (lt_of_some V4) (by simp)).trans W2
        have a3 := (hG.cell (p := ⟨s9, 3, none⟩) (lt_of_some V4) (by simp)).trans W3
        have r0 := (hG.cell (p := ⟨rb, 0, none⟩) (lt_of_some R5) (by simp)).trans Y0
        have r1 := (hG.cell (p := ⟨rb, 1, none⟩) (lt_of_some R5) (by simp)).trans Y1
        have r2 := (hG.cell (p := ⟨rb, 2, none⟩) (lt_of_some R5) (by simp)).trans Y2
        have r3 := (hG.cell (p := ⟨rb, 3, none⟩) (lt_of_some R5) (by simp)).trans Y3
        go_simp
      · intro a u _ hf
        simp [facts, Need.fact, Ent.val, Act.eval] at hf
        refine ⟨_, _, by go_simp, (sgr_x l hbd k _).mono ?_⟩
        rintro e w' ⟨rfl, hb⟩
        exact ⟨_, rfl, hb, rfl⟩
      · intro a u hG hf
        simp [facts, Need.fact, Ent.val, Act.eval] at hf
        have a0 := (hG.cell (p := ⟨s9, 0, none⟩) (lt_of_some V4) (by simp)).trans W0
        have a1 := (hG.cell (p := ⟨s9, 1, none⟩) (lt_of_some V4) (by simp)).trans W1
        have a2 := (hG.cell (p := ⟨s9, 2, none⟩) (lt_of_some V4) (by simp)).trans W2
        have a3 := (hG.cell (p := ⟨s9, 3, none⟩) (lt_of_some V4) (by simp)).trans W3
        have r0 := (hG.cell (p := ⟨rb, 0, none⟩) (lt_of_some R5) (by simp)).trans Y0
        have r1 := (hG.cell (p := ⟨rb, 1, none⟩) (lt_of_some R5) (by simp)).trans Y1
        have r2 := (hG.cell (p := ⟨rb, 2, none⟩) (lt_of_some R5) (by simp)).trans Y2
        have r3 := (hG.cell (p := ⟨rb, 3, none⟩) (lt_of_some R5) (by simp)).trans Y3
        go_simp
      · intro a u _ hf
        simp [facts, Need.fact, Ent.val, Act.eval] at hf
        refine ⟨_, _, by go_simp, (H.meet k _ (by omega)).mono ?_⟩
        rintro e w' ⟨rfl, hb⟩
        exact ⟨_, rfl, hb, rfl⟩
      intro u lw hw wc hKp hE hI hD
      simp only [allE, Ent.val] at hE
      obtain ⟨u0, u1, u2, u3, -⟩ := hE
      simp only [Nat.reduceAdd] at u0 u1 u2 u3
      simp only [allPut, Act.put, Nat.reduceAdd, u0, u1, u2, u3]
      try simp only [List.setIfInBounds_toArray, List.set_cons_zero, List.set_cons_succ]
      clear hI hD u0 u1 u2 u3
      have I6 := H.ext k _ _ I5 hKp.below
      have V6 := (hKp.block _ (lt_of_some V4) (by simp)).trans V4
      have R6 := (hKp.block _ (lt_of_some R5) (by simp)).trans R5
      have Q6 := (hKp.block _ (lt_of_some Q5) (by simp)).trans Q5
      clear hKp I5 V4 R5 Q5 W0 W1 W2 W3 Y0 Y1 Y2 Y3
      have W0 := cellAt V6 0
      have W1 := cellAt V6 1
      have W2 := cellAt V6 2
      have W3 := cellAt V6 3
      simp only [List.getElem?_toArray, List.getElem?_cons_zero, List.getElem?_cons_succ] at W0 W1 W2 W3
      generalize hh : hit k = h at *
      cases h with
      | false =>
        have I7 := H.skip k _ (by omega) hh I6
        clear hh
        go_wp2
        go_roundw
        case rel => exact ⟨k + 1, by omega, by go_num, by go_num, I7, R6, Q6⟩
        case measure => simp [intOf]; omega
      | true =>
        have hst := H.step k _ (by omega) hh I6
        clear hh
        unfold sgv at hst
        go_wp2
        rw [H.ent, Oper.upon_enter]
        refine hst.mono ?_
        rintro e w7 ⟨c, rfl, hi, hs, hk7⟩
        have R7 := hk7.2 _ _ _ (.inl rfl) R6
        have Q7 := hk7.2 _ _ _ (.inl rfl) Q6
        clear hst hk7 I6 R6 Q6 V6 W0 W1 W2 W3
        cases c with
        | true =>
          have I7 := hi rfl
          clear hi hs
          go_wp2
          go_roundw
          case rel => exact ⟨k + 1, by omega, by go_num, by go_num, I7, R7, Q7⟩
          case measure => simp [intOf]; omega
        | false =>
          have S7 := hs rfl
          clear hi hs
          go_wp2
          first | exact bodyPost_ret (v := .tuple #[]) (by simp [results, Tryz.results131, go_sem]) rfl ⟨rfl, .inr S7⟩ | (go_end0; exact ⟨rfl, .inr S7⟩)
    · have hkk : k = 4 := by omega
      subst hkk
      go_wp2
      go_end0
      exact ⟨rfl, .inl I3⟩
theorem rcRing {a b c d : Int} (h1 : a < c) (h2 : b < d) (hbd : ∀ p ∈ rl a b c d, Bnd p) (w : World) :
    RingM rcF 52 (.agg #[fl (fb a), fl (fb b), fl (fb c), fl (fb d)]) true (rl a b c d) w where
  mrect := ⟨fun _ _ => by kernel_rfl, fun _ _ => by kernel_rfl⟩
  mempty := ⟨fun _ _ => by kernel_rfl, fun _ _ => by kernel_rfl⟩
  mnpts := ⟨fun _ _ => by kernel_rfl, fun _ _ => by kernel_rfl⟩
  mptat := ⟨fun _ _ => by kernel_rfl, fun _ _ => by kernel_rfl⟩
  mnseg := ⟨fun _ _ => by kernel_rfl, fun _ _ => by kernel_rfl⟩
  msegat := ⟨fun _ _ => by kernel_rfl, fun _ _ => by kernel_rfl⟩
  mconv := ⟨fun _ _ => by kernel_rfl, fun _ _ => by kernel_rfl⟩
  msrch := ⟨fun _ _ => by kernel_rfl, fun _ _ => by kernel_rfl⟩
  nils := fun _ => by kernel_rfl
  len := by simp [rl]
  two := by simp [rl]
  bnd := hbd
  crect := fun u _ => by rw [rl_box (by omega) (by omega)]; exact rrct_c _ _ _ _ u
  cempty := fun u _ => rem_c _ _ _ _ u
  cnpts := fun u _ => rnp_c _ _ _ _ u
  cptat := fun k u hk _ => rpat_c a b c d k hk u
  cnseg := fun u _ => by rw [rl_seg]; exact rns_c _ _ _ _ u
  csegat := fun k u hk _ => rsat_c a b c d k (by rw [rl_seg] at hk; exact hk) u
  cconv := fun u _ => by rw [rl_conv h1 h2]; exact rcx_c _ _ _ _ u
  csrch := fun F caps q0 q1 q2 q3 hit Inv Stop rhit w0 _ S _ _ u h0 => by
    rw [rl_seg]
    exact rsearch_c F caps a b c d hbd q0 q1 q2 q3 hit Inv Stop w0 S u h0
end Go.Proofs.YtlpibeloedfbdaaGreat
set_option linter.unusedSimpArgs false
set_option linter.unusedVariables false
/-! Searches of a ring, be it a series or a rectangle: the first hit; a count up to two; a ray. -/
namespace PF
/-- how many of the first n -/
def cntN (f : Nat → Bool) : Nat → Nat
  | 0 => 0
  | n + 1 => cntN f n + (if f n then 1 else 0)
theorem cntN_le {f : Nat → Bool} {k : Nat} : ∀ {n : Nat}, k ≤ n → cntN f k ≤ cntN f n := by
  intro n
  induction n with
  | zero =>
    intro h
    have e : k = 0 := by omega
    rw [e]
    exact Nat.le_refl _
  | succ n ih =>
    intro h
    rcases Nat.lt_or_ge n k with g | g
    · obtain rfl : k = n + 1 := by omega
      exact Nat.le_refl _
    · rw [cntN]
      have := ih g
      omega
end PF
namespace Go.Proofs.YtlpibeloedfbdaaGreat
open Go.RowKit PF JR
section
variable {f : RF} {T : TypeId} {y : Value} {cl : Bool} {l : List (Int × Int)} {w : World}
/-- the rectangles of a ring's segments against a rectangle of whole numbers -/
def hitR (l : List (Int × Int)) (R0 R1 R2 R3 : Int) (k : Nat) : Bool := decide ((sgx l k).1 ≤ R2 ∧ R0 ≤ (sgx l k).2.2.1 ∧ (sgx l k).2.1 ≤ R3 ∧ R1 ≤ (sgx l k).2.2.2)
set_option maxHeartbeats 1000000 in
/-- a search with any closure that keeps to blocks that are known -/
theorem srch_any (H : RingM f T y cl l w) (F : FuncId) (caps : Array Value) (hent : ∀ args u, (callFunc F args).run Tryz.prog u = .ok (.enter F args) u) {q0 q1 q2 q3 : Nat} (hit : Nat → Bool) (rhit : Bool)
    (hmeet : ∀ k u, k < nSeg cl l → Calls Tryz.prog 25 #[.agg #[fl (fb (sgx l k).1), fl (fb (sgx l k).2.1), fl (fb (sgx l k).2.2.1), fl (fb (sgx l k).2.2.2)], .agg #[fl q0, fl q1, fl q2, fl q3]] u fun e u' => e = .returned (.bool (hit k)) ∧ Below u.heap.size u u')
    (hroot : ∀ u, Calls Tryz.prog 25 #[.agg #[fl q0, fl q1, fl q2, fl q3], .agg #[fl (fb (rbx l (nSeg cl l)).1), fl (fb (rbx l (nSeg cl l)).2.1), fl (fb (rbx l (nSeg cl l)).2.2.1), fl (fb (rbx l (nSeg cl l)).2.2.2)]] u fun e u' => e = .returned (.bool rhit) ∧ Below u.heap.size u u')
    (hpr : rhit = false → ∀ k, k < nSeg cl l → hit k = false)
    (X : List Nat) (u : World) (hu : Below w.heap.size w u) (hX : ∀ x ∈ X, w.heap.size ≤ x ∧ x < u.heap.size ∧ ∃ cs T, u.heap[x]? = some (.cells cs T (0, 0)) ∧ T ≠ 52 ∧ T ≠ 73)
    (I : Nat → World → Prop) (S : World → Prop) (hI : ∀ k z, I k z → ∀ x ∈ X, ∃ cs T, z.heap[x]? = some (.cells cs T (0, 0)) ∧ T ≠ 52 ∧ T ≠ 73)
    (hIe : ∀ k z z', I k z → (∀ x ∈ X, z'.heap[x]? = z.heap[x]?) → I k z') (hSe : ∀ z z', S z → (∀ x ∈ X, z'.heap[x]? = z.heap[x]?) → S z') (hSx : ∀ z, S z → ∀ x ∈ X, x < z.heap.size)
    (h0 : I 0 u)
    (hstep : ∀ k z, k < nSeg cl l → Keep X u z → I k z → Calls Tryz.prog F (#[sgv l k, .int .i64 k] ++ caps) z fun e z' => ∃ c : Bool, e = .returned (.bool c) ∧ Keep X z z' ∧ (c = true → I (k + 1) z') ∧ (c = false → S z'))
    (hskip : ∀ k z, k < nSeg cl l → hit k = false → I k z → I (k + 1) z) :
    Calls Tryz.prog f.srch #[y, .agg #[fl q0, fl q1, fl q2, fl q3], .func (.func F) #[] caps] u
      fun e u' => e = .returned (.tuple #[]) ∧ Keep X u u' ∧ (I (nSeg cl l) u' ∨ S u') := by
  have Hs : SrchR F caps cl l w (.agg #[fl q0, fl q1, fl q2, fl q3]) hit (fun k z => Keep X u z ∧ I k z) (fun z => Keep X u z ∧ S z) := by
    refine ⟨hent, ?_, ?_, ?_, hmeet, ?_, ?_⟩
    · rintro k z ⟨hK, -⟩ j hj
      exact (hK.block j (Nat.lt_of_lt_of_le hj hu.size) (fun h => by have := (hX j h).1; omega)).trans (hu.block j hj)
    · rintro k z z' ⟨hK, hi⟩ he
      refine ⟨hK.ext he, hIe k z z' hi fun x hx => ?_⟩
      obtain ⟨cs, T', h, -⟩ := hI k z hi x hx
      exact he.block x (lt_of_some h)
    · rintro z z' ⟨hK, hs⟩ he
      exact ⟨hK.ext he, hSe z z' hs fun x hx => he.block x (hSx z hs x hx)⟩
    · rintro k z hk hit ⟨hK, hi⟩
      refine (hstep k z hk hK hi).mono ?_
      rintro e z' ⟨c, rfl, hK2, h1, h2⟩
      have hK3 := keep_extA hK hK2
      refine ⟨c, rfl, fun hc => ⟨hK3, h1 hc⟩, fun hc => ⟨hK3, h2 hc⟩, hK2.size, fun j cs T' hT hj => ?_⟩
      refine (hK2.block j (lt_of_some hj) (fun h => ?_)).trans hj
      obtain ⟨cs', T'', g1, g2, g3⟩ := hI k z hi j h
      rw [g1] at hj
      cases hj
      rcases hT with h | h
      · exact g2 h
      · exact g3 h
    · rintro k z hk hit ⟨hK, hi⟩
      exact ⟨hK, hskip k z hk hit hi⟩
  refine (H.csrch F caps q0 q1 q2 q3 _ _ _ rhit w (Below.refl _ _) Hs (fun _ z => hroot z) hpr u ⟨Keep.refl _ _, h0⟩).mono ?_
  · rintro e u' ⟨rfl, h⟩
    rcases h with ⟨hK, h⟩ | ⟨hK, h⟩
    · exact ⟨rfl, hK, .inl h⟩
    · exact ⟨rfl, hK, .inr h⟩
/-- a rectangle of whole numbers against a ring's segments -/
theorem meetR (H : RingM f T y cl l w) {q0 q1 q2 q3 : Nat} {R0 R1 R2 R3 : Int} (e0 : Rep q0 R0) (e1 : Rep q1 R1) (e2 : Rep q2 R2) (e3 : Rep q3 R3) (k : Nat) (u : World) :
    Calls Tryz.prog 25 #[.agg #[fl (fb (sgx l k).1), fl (fb (sgx l k).2.1), fl (fb (sgx l k).2.2.1), fl (fb (sgx l k).2.2.2)], .agg #[fl q0, fl q1, fl q2, fl q3]] u fun e u' => e = .returned (.bool (hitR l R0 R1 R2 R3 k)) ∧ Below u.heap.size u u' := by
  obtain ⟨k1, k2, k3, k4⟩ := sgx_bd H.bnd k
  exact rir_c (fb_rep _ (by omega)) (fb_rep _ (by omega)) (fb_rep _ (by omega)) (fb_rep _ (by omega)) e0 e1 e2 e3 u
theorem rootR (H : RingM f T y cl l w) {q0 q1 q2 q3 : Nat} {R0 R1 R2 R3 : Int} (e0 : Rep q0 R0) (e1 : Rep q1 R1) (e2 : Rep q2 R2) (e3 : Rep q3 R3) (u : World) :
    Calls Tryz.prog 25 #[.agg #[fl q0, fl q1, fl q2, fl q3], .agg #[fl (fb (rbx l (nSeg cl l)).1), fl (fb (rbx l (nSeg cl l)).2.1), fl (fb (rbx l (nSeg cl l)).2.2.1), fl (fb (rbx l (nSeg cl l)).2.2.2)]] u fun e u' => e = .returned (.bool (decide (R0 ≤ (rbx l (nSeg cl l)).2.2.1 ∧ (rbx l (nSeg cl l)).1 ≤ R2 ∧ R1 ≤ (rbx l (nSeg cl l)).2.2.2 ∧ (rbx l (nSeg cl l)).2.1 ≤ R3))) ∧ Below u.heap.size u u' := by
  obtain ⟨k1, k2, k3, k4⟩ := rbx_bd H.bnd (nSeg cl l)
  exact rir_c e0 e1 e2 e3 (fb_rep _ (by omega)) (fb_rep _ (by omega)) (fb_rep _ (by omega)) (fb_rep _ (by omega)) u
theorem prR {R0 R1 R2 R3 : Int} (hf : decide (R0 ≤ (rbx l (nSeg cl l)).2.2.1 ∧ (rbx l (nSeg cl l)).1 ≤ R2 ∧ R1 ≤ (rbx l (nSeg cl l)).2.2.2 ∧ (rbx l (nSeg cl l)).2.1 ≤ R3) = false) (k : Nat) (hk : k < nSeg cl l) : hitR l R0 R1 R2 R3 k = false := by
  obtain ⟨a, b, c, d⟩ := rbx_allA l (nSeg cl l) k hk
  have := of_decide_eq_false hf
  exact decide_eq_false (by omega)
/-- the first hit -/
theorem any_findR (H : RingM f T y cl l w) (F : FuncId) (caps : Array Value) (hent : ∀ args u, (callFunc F args).run Tryz.prog u = .ok (.enter F args) u) {q0 q1 q2 q3 : Nat} {R0 R1 R2 R3 : Int} (e0 : Rep q0 R0) (e1 : Rep q1 R1) (e2 : Rep q2 R2) (e3 : Rep q3 R3)
    (u : World) (hu : Below w.heap.size w u) (fbk : Nat) (hfl : w.heap.size ≤ fbk) (ans : Nat → Bool) (hf : u.heap[fbk]? = some (.cells #[.bool false] 4 (0, 0)))
    (hcall : ∀ k z, k < nSeg cl l → Keep [fbk] u z → z.heap[fbk]? = some (.cells #[.bool false] 4 (0, 0)) → Calls Tryz.prog F (#[sgv l k, .int .i64 k] ++ caps) z fun e z' => e = .returned (.bool (!ans k)) ∧ z'.heap[fbk]? = some (.cells #[.bool (ans k)] 4 (0, 0)) ∧ Keep [fbk] z z')
    (hmiss : ∀ k, k < nSeg cl l → hitR l R0 R1 R2 R3 k = false → ans k = false) :
    Calls Tryz.prog f.srch #[y, .agg #[fl q0, fl q1, fl q2, fl q3], .func (.func F) #[] caps] u
      fun e u' => e = .returned (.tuple #[]) ∧ Keep [fbk] u u' ∧ u'.heap[fbk]? = some (.cells #[.bool (anyN ans (nSeg cl l))] 4 (0, 0)) := by
  refine (srch_any H F caps hent (hitR l R0 R1 R2 R3) _ (fun k u _ => meetR H e0 e1 e2 e3 k u) (fun u => rootR H e0 e1 e2 e3 u) (fun h k hk => prR h k hk) [fbk] u hu (fun x hx => by
      obtain rfl : x = fbk := by simpa using hx
      exact ⟨hfl, lt_of_some hf, _, _, hf, by decide, by decide⟩)
    (fun k z => z.heap[fbk]? = some (.cells #[.bool false] 4 (0, 0)) ∧ anyN ans k = false) (fun z => z.heap[fbk]? = some (.cells #[.bool true] 4 (0, 0)) ∧ anyN ans (nSeg cl l) = true)
    (fun k z h x hx => by
      obtain rfl : x = fbk := by simpa using hx
      exact ⟨_, _, h.1, by decide, by decide⟩)
    (fun k z z' h he => ⟨(he fbk (by simp)).trans h.1, h.2⟩) (fun z z' h he => ⟨(he fbk (by simp)).trans h.1, h.2⟩) (fun z h x hx => by
      obtain rfl : x = fbk := by simpa using hx
      exact lt_of_some h.1)
    ⟨hf, rfl⟩ ?_ ?_).mono ?_
  · rintro k z hk hK ⟨h1, h2⟩
    refine (hcall k z hk hK h1).mono ?_
    rintro e z' ⟨rfl, g1, g2⟩
    refine ⟨_, rfl, g2, fun hc => ?_, fun hc => ?_⟩
    · have hr : ans k = false := by cases hh : ans k <;> simp_all
      rw [hr] at g1
      exact ⟨g1, by rw [anyN, h2, hr]; rfl⟩
    · have hr : ans k = true := by cases hh : ans k <;> simp_all
      rw [hr] at g1
      exact ⟨g1, anyN_hit hk hr⟩
  · rintro k z hk hh ⟨h1, h2⟩
    exact ⟨h1, by rw [anyN, h2, hmiss k hk hh]; rfl⟩
  · rintro e u' ⟨rfl, hK, h⟩
    refine ⟨rfl, hK, ?_⟩
    rcases h with ⟨h1, h2⟩ | ⟨h1, h2⟩ <;> rw [h1, h2]
/-- a count up to two -/
theorem cnt_findR (H : RingM f T y cl l w) (F : FuncId) (caps : Array Value) (hent : ∀ args u, (callFunc F args).run Tryz.prog u = .ok (.enter F args) u) {q0 q1 q2 q3 : Nat} {R0 R1 R2 R3 : Int} (e0 : Rep q0 R0) (e1 : Rep q1 R1) (e2 : Rep q2 R2) (e3 : Rep q3 R3)
    (u : World) (hu : Below w.heap.size w u) (fbk : Nat) (hfl : w.heap.size ≤ fbk) (ans : Nat → Bool) (hf : u.heap[fbk]? = some (.cells #[.int .i64 0] 3 (0, 0)))
    (hcall : ∀ k n z, k < nSeg cl l → Keep [fbk] u z → n < 2 → z.heap[fbk]? = some (.cells #[.int .i64 (n : Nat)] 3 (0, 0)) → Calls Tryz.prog F (#[sgv l k, .int .i64 k] ++ caps) z fun e z' => e = .returned (.bool (decide (n + (if ans k then 1 else 0) < 2))) ∧ z'.heap[fbk]? = some (.cells #[.int .i64 ((n + (if ans k then 1 else 0) : Nat) : Int)] 3 (0, 0)) ∧ Keep [fbk] z z')
    (hmiss : ∀ k, k < nSeg cl l → hitR l R0 R1 R2 R3 k = false → ans k = false) :
    Calls Tryz.prog f.srch #[y, .agg #[fl q0, fl q1, fl q2, fl q3], .func (.func F) #[] caps] u
      fun e u' => e = .returned (.tuple #[]) ∧ Keep [fbk] u u' ∧ ∃ m : Nat, u'.heap[fbk]? = some (.cells #[.int .i64 m] 3 (0, 0)) ∧ decide (2 ≤ m) = decide (2 ≤ cntN ans (nSeg cl l)) := by
  refine (srch_any H F caps hent (hitR l R0 R1 R2 R3) _ (fun k u _ => meetR H e0 e1 e2 e3 k u) (fun u => rootR H e0 e1 e2 e3 u) (fun h k hk => prR h k hk) [fbk] u hu (fun x hx => by
      obtain rfl : x = fbk := by simpa using hx
      exact ⟨hfl, lt_of_some hf, _, _, hf, by decide, by decide⟩)
    (fun k z => z.heap[fbk]? = some (.cells #[.int .i64 (cntN ans k)] 3 (0, 0)) ∧ cntN ans k < 2) (fun z => ∃ m : Nat, z.heap[fbk]? = some (.cells #[.int .i64 m] 3 (0, 0)) ∧ 2 ≤ m ∧ 2 ≤ cntN ans (nSeg cl l))
    (fun k z h x hx => by
      obtain rfl : x = fbk := by simpa using hx
      exact ⟨_, _, h.1, by decide, by decide⟩)
    (fun k z z' h he => ⟨(he fbk (by simp)).trans h.1, h.2⟩) (fun z z' h he => by
      obtain ⟨m, h1, h2⟩ := h
      exact ⟨m, (he fbk (by simp)).trans h1, h2⟩) (fun z h x hx => by
      obtain ⟨m, h1, h2⟩ := h
      obtain rfl : x = fbk := by simpa using hx
      exact lt_of_some h1)
    ⟨hf, by simp [cntN]⟩ ?_ ?_).mono ?_
  · rintro k z hk hK ⟨h1, h2⟩
    refine (hcall k _ z hk hK h2 h1).mono ?_
    rintro e z' ⟨rfl, g1, g2⟩
    refine ⟨_, rfl, g2, fun hc => ⟨g1, of_decide_eq_true hc⟩, fun hc => ?_⟩
    have := of_decide_eq_false hc
    have h3 : cntN ans (k + 1) ≤ cntN ans (nSeg cl l) := cntN_le (by omega)
    rw [cntN] at h3
    exact ⟨_, g1, by omega, by omega⟩
  · rintro k z hk hh ⟨h1, h2⟩
    have e : cntN ans (k + 1) = cntN ans k := by rw [cntN, hmiss k hk hh]; rfl
    rw [e]
    exact ⟨h1, h2⟩
  · rintro e u' ⟨rfl, hK, h⟩
    refine ⟨rfl, hK, ?_⟩
    rcases h with ⟨h1, h2⟩ | ⟨m, h1, h2, h3⟩
    · exact ⟨_, h1, rfl⟩
    · exact ⟨m, h1, by rw [decide_eq_true h2, decide_eq_true h3]⟩
end
end Go.Proofs.YtlpibeloedfbdaaGreat
set_option linter.unusedSimpArgs false
set_option linter.unusedVariables false
/-! ringIntersectsSegment, what stands on the edge counted. -/
namespace Go.Proofs.YtlpibeloedfbdaaGreat
open Go.RowKit PF JR
theorem entIS (args : Array Value) (u : World) : (callFunc 138 args).run Tryz.prog u = .ok (.enter 138 args) u := by kernel_rfl
/-- the closure -/
theorem ris1_c (a b c d x y z t : Nat) (q : Bool) (k : Int) (n sk ab n1 n2 cb : Nat) (hn : n < 2) (u : World)
    (hsis : ∀ u, Calls Tryz.prog 139 #[.agg #[fl x, fl y, fl z, fl t], .agg #[fl a, fl b, fl c, fl d]] u fun e w' => e = .returned (.bool q) ∧ Below u.heap.size u w')
    (hp : u.heap[sk]? = some (.cells #[fl x, fl y, fl z, fl t] 73 (0, 0))) (ha : u.heap[ab]? = some (.cells #[.bool true] 4 (0, 0))) (hf : u.heap[cb]? = some (.cells #[.int .i64 n] 3 (0, 0))) :
    Calls Tryz.prog 138 #[.agg #[fl a, fl b, fl c, fl d], .int .i64 k, .pointer (some ⟨sk, 0, none⟩), .pointer (some ⟨ab, 0, none⟩), .pointer (some ⟨n1, 0, none⟩), .pointer (some ⟨n2, 0, none⟩), .pointer (some ⟨cb, 0, none⟩)] u
      fun e u' => e = .returned (.bool (decide (n + (if q then 1 else 0) < 2))) ∧ u'.heap[cb]? = some (.cells #[.int .i64 ((n + (if q then 1 else 0) : Nat) : Int)] 3 (0, 0)) ∧ Keep [cb] u u' := by
  have st0 := (Blk.nil u).push rfl #[fl a, fl b, fl c, fl d] 73
  have hB1 := st0.hb
  have q0 := st0.cell 0 rfl 0
  have q1 := st0.cell 0 rfl 1
  have q2 := st0.cell 0 rfl 2
  have q3 := st0.cell 0 rfl 3
  have hp1 := (hB1.block sk (lt_of_some hp)).trans hp
  have p0 := cellAt hp1 0
  have p1 := cellAt hp1 1
  have p2 := cellAt hp1 2
  have p3 := cellAt hp1 3
  simp only [List.getElem?_toArray, List.getElem?_cons_zero, List.getElem?_cons_succ] at p0 p1 p2 p3 q0 q1 q2 q3
  go_enter Tryz.func138, Tryz.ntmps138
  go_wp2_with (go_at_call 139; refine JR.StopM.out ?_)
  refine ⟨?_⟩
  refine (hsis _).mono ?_
  rintro e w1 ⟨rfl, hb⟩
  have hB2 := hB1.trans (hb.mono (by simp))
  have hf2 := (hB2.block cb (lt_of_some hf)).trans hf
  have ff := frozenAt hf2 0
  have c0 := cellAt hf2 0
  have a0 := cellAt ((hB2.block ab (lt_of_some ha)).trans ha) 0
  simp only [List.getElem?_toArray, List.getElem?_cons_zero] at c0 a0
  have hK2 : Keep [cb] u w1 := ⟨hB2.os, hB2.tape, hB2.output, hB2.size, fun j hj _ => hB2.block j hj⟩
  clear hb st0 q0 q1 q2 q3 p0 p1 p2 p3 hp1 hB1 hsis hB2
  have hn01 : n = 0 ∨ n = 1 := by omega
  cases q with
  | true =>
    rcases hn01 with rfl | rfl
    · go_wp2
      go_ret
      rw [setCell_row hf2]
      exact ⟨rfl, by rw [setRow_same hf2]; rfl, hK2.setRow (.inr (by simp))⟩
    · go_wp2
      go_ret
      rw [setCell_row hf2]
      exact ⟨rfl, by rw [setRow_same hf2]; rfl, hK2.setRow (.inr (by simp))⟩
  | false =>
    rcases hn01 with rfl | rfl
    · go_wp2
      go_ret
      exact ⟨rfl, hf2, hK2⟩
    · go_wp2
      go_ret
      exact ⟨rfl, hf2, hK2⟩
set_option maxRecDepth 100000 in
set_option maxHeartbeats 8000000 in
theorem ris_c {f : RF} {T : TypeId} {y : Value} {l : List (Int × Int)} {w : World} (H : RingM f T y true l w) (m : List (Int × Int)) (hmb : ∀ p ∈ m, Bnd p) (i : Nat) (hA hB : Bool) (q : Nat → Bool)
    (hcA : ∀ u, Below w.heap.size w u → Calls Tryz.prog 107 #[.iface T y, .agg #[fl (fb (at' m i).1), fl (fb (at' m i).2)], .bool true] u fun e u' => ∃ x : Int, e = .returned (.agg #[.bool hA, .int .i64 x]) ∧ Below u.heap.size u u')
    (hcB : ∀ u, Below w.heap.size w u → Calls Tryz.prog 107 #[.iface T y, .agg #[fl (fb (nxp m i).1), fl (fb (nxp m i).2)], .bool true] u fun e u' => ∃ x : Int, e = .returned (.agg #[.bool hB, .int .i64 x]) ∧ Below u.heap.size u u')
    (hq : ∀ k, k < nSeg true l → ∀ u, Calls Tryz.prog 139 #[sgv m i, sgv l k] u fun e w' => e = .returned (.bool (q k)) ∧ Below u.heap.size u w')
    (hmiss : ∀ k, k < nSeg true l → hitR l (sgx m i).1 (sgx m i).2.1 (sgx m i).2.2.1 (sgx m i).2.2.2 k = false → q k = false) (hbx : BdR (ppB true l)) :
    Calls Tryz.prog 136 #[.iface T y, sgv m i, .bool true] w fun e w' => e = .returned (.bool (decide ((sgx m i).1 ≤ (ppB true l).2.2.1 ∧ (ppB true l).1 ≤ (sgx m i).2.2.1 ∧ (sgx m i).2.1 ≤ (ppB true l).2.2.2 ∧ (ppB true l).2.1 ≤ (sgx m i).2.2.2) && (hA || hB || decide (2 ≤ cntN q (nSeg true l))))) ∧ Below w.heap.size w w' := by
  obtain ⟨s1, s2, s3, s4⟩ := sgx_bd hmb i
  obtain ⟨x1, x2, x3, x4⟩ := hbx
  have e0 := fb_rep (sgx m i).1 (by omega)
  have e1 := fb_rep (sgx m i).2.1 (by omega)
  have e2 := fb_rep (sgx m i).2.2.1 (by omega)
  have e3 := fb_rep (sgx m i).2.2.2 (by omega)
  have hsr := sgr_x m hmb i
  have hrir := fun u => rir_c e0 e1 e2 e3 (fb_rep (ppB true l).1 (by omega)) (fb_rep (ppB true l).2.1 (by omega)) (fb_rep (ppB true l).2.2.1 (by omega)) (fb_rep (ppB true l).2.2.2 (by omega)) u
  obtain ⟨bm, hbm⟩ : ∃ b, decide ((sgx m i).1 ≤ (ppB true l).2.2.1 ∧ (ppB true l).1 ≤ (sgx m i).2.2.1 ∧ (sgx m i).2.1 ≤ (ppB true l).2.2.2 ∧ (ppB true l).2.1 ≤ (sgx m i).2.2.2) = b := ⟨_, rfl⟩
  rw [hbm] at hrir
  simp only [hbm]
  have hrc := H.crect
  have hfind := fun u (hu : Below w.heap.size w u) (cb : Nat) (hcb : w.heap.size ≤ cb) (caps : Array Value) hf hcall => cnt_findR H 138 caps entIS e0 e1 e2 e3 u hu cb hcb q hf hcall hmiss
  obtain ⟨mr, er⟩ := H.mrect
  obtain ⟨ms, es⟩ := H.msrch
  have hnl := H.nils
  unfold sgv at hq
  unfold sgv
  generalize hN : nSeg true l = N at *
  clear hmiss hbm x1 x2 x3 x4 s1 s2 s3 s4 e0 e1 e2 e3
  generalize fb (ppB true l).1 = b0 at *
  generalize fb (ppB true l).2.1 = b1 at *
  generalize fb (ppB true l).2.2.1 = b2 at *
  generalize fb (ppB true l).2.2.2 = b3 at *
  generalize fb (sgx m i).1 = f0 at *
  generalize fb (sgx m i).2.1 = f1 at *
  generalize fb (sgx m i).2.2.1 = f2 at *
  generalize fb (sgx m i).2.2.2 = f3 at *
  generalize fb (at' m i).1 = t0 at *
  generalize fb (at' m i).2 = t1 at *
  generalize fb (nxp m i).1 = t2 at *
  generalize fb (nxp m i).2 = t3 at *
  have st0 := ((Blk.nil w).push rfl #[fl t0, fl t1, fl t2, fl t3] 73).push (b := w.heap.size + 1) (by simp) #[.bool true] 4
  have z0 := st0.cell 1 rfl 0
  have z1 := st0.cell 1 rfl 1
  have z2 := st0.cell 1 rfl 2
  have z3 := st0.cell 1 rfl 3
  have z4 := st0.cell 0 rfl 0
  simp only [List.getElem?_toArray, List.getElem?_cons_zero, List.getElem?_cons_succ] at z0 z1 z2 z3 z4
  go_enter Tryz.func136, Tryz.ntmps136
  go_wp2_with (go_at_call 46; refine JR.StopM.out ?_)
  refine ⟨?_⟩
  refine (hsr _).mono ?_
  rintro e w1 ⟨rfl, hb1⟩
  have st1 := st0.ext hb1
  clear hb1 st0 z0 z1 z2 z3 z4
  go_wp2_with (with_reducible refine stopC f.rect ?_)
  refine ⟨?_⟩
  refine (hrc _ st1.hb).mono ?_
  rintro e w2 ⟨rfl, hb2⟩
  have st2 := st1.ext hb2
  clear hb2 st1
  go_wp2_with (go_at_call 25; refine JR.StopM.out ?_)
  refine ⟨?_⟩
  refine (hrir _).mono ?_
  rintro e w3 ⟨rfl, hb3⟩
  have st3 := st2.ext hb3
  clear hb3 st2
  cases bm with
  | false =>
    go_wp2
    go_ret
    exact ⟨rfl, st3.hb⟩
  | true =>
  have z0 := st3.cell 1 rfl 0
  have z1 := st3.cell 1 rfl 1
  have z2 := st3.cell 1 rfl 2
  have z3 := st3.cell 1 rfl 3
  have z4 := st3.cell 0 rfl 0
  simp only [List.getElem?_toArray, List.getElem?_cons_zero, List.getElem?_cons_succ] at z0 z1 z2 z3 z4
  go_wp2_with (go_at_call 107; refine JR.StopM.out ?_)
  refine ⟨?_⟩
  refine (hcA _ st3.hb).mono ?_
  rintro e w4 ⟨xa, rfl, hb4⟩
  have st4 := st3.ext hb4
  have hfd : (Instr.field 167 (.agg #[.bool hA, .int .i64 xa]) 0).run Tryz.prog w4 = .ok (.bool hA) w4 := by kernel_rfl
  clear hb4 st3 z0 z1 z2 z3 z4
  cases hA with
  | true =>
    go_wp2
    go_ret
    exact ⟨rfl, st4.hb⟩
  | false =>
  have z0 := st4.cell 1 rfl 0
  have z1 := st4.cell 1 rfl 1
  have z2 := st4.cell 1 rfl 2
  have z3 := st4.cell 1 rfl 3
  have z4 := st4.cell 0 rfl 0
  simp only [List.getElem?_toArray, List.getElem?_cons_zero, List.getElem?_cons_succ] at z0 z1 z2 z3 z4
  go_wp2_with (go_at_call 107; refine JR.StopM.out ?_)
  refine ⟨?_⟩
  refine (hcB _ st4.hb).mono ?_
  rintro e w5 ⟨xb, rfl, hb5⟩
  have st5 := st4.ext hb5
  have hfd : (Instr.field 167 (.agg #[.bool hB, .int .i64 xb]) 0).run Tryz.prog w5 = .ok (.bool hB) w5 := by kernel_rfl
  clear hb5 st4 z0 z1 z2 z3 z4
  cases hB with
  | true =>
    go_wp2
    go_ret
    exact ⟨rfl, st5.hb⟩
  | false =>
  have st6 := ((st5.push (b := w5.heap.size) rfl #[.int .i64 0] 3).push (b := w5.heap.size + 1) (by simp) #[.bool false] 4).push (b := w5.heap.size + 1 + 1) (by simp) #[.bool false] 4
  go_wp2
  have BW := st6.hb
  generalize hW : ((w5.alloc (.cells #[.int .i64 0] 3)).alloc (.cells #[.bool false] 4)).alloc (.cells #[.bool false] 4) = W at *
  have r0 := st6.known 4 _ rfl
  have r1 := st6.known 3 _ rfl
  have rc := st6.known 2 _ rfl
  have h5 := st5.hb.size
  have h51 := st5.lt 0 rfl
  have h50 := st5.lt 1 rfl
  clear st5 hcA hcB hW
  generalize ho9 : w5.heap.size = o9 at *
  refine wp_region_T [o9] [.val (.iface T y), .val (.agg #[fl t0, fl t1, fl t2, fl t3]), .val (.agg #[fl f0, fl f1, fl f2, fl f3]),
      .val (.func (.func 138) #[] #[.pointer (some ⟨w.heap.size, 0, none⟩), .pointer (some ⟨w.heap.size + 1, 0, none⟩), .pointer (some ⟨o9 + 1, 0, none⟩), .pointer (some ⟨o9 + 1 + 1, 0, none⟩), .pointer (some ⟨o9, 0, none⟩)]),
      .val (.func (.method "Search") #[.iface T y] #[]), .val (.func (.method "Search") #[.iface T y] #[]), .val (.iface T y),
      .fin W (fun lo hi u => ∃ m : Nat, u.heap[o9]? = some (.cells #[.int .i64 m] 3 (0, 0)) ∧ decide (2 ≤ m) = decide (2 ≤ cntN q N)) (fun lo hi u u' _ _ hk ⟨m, h1, h2⟩ => ⟨m, (hk o9 (.inl (lt_of_some rc))).trans h1, h2⟩)]
    [[.ini 0], [.ini 4], [.frm 1 29], [.ini 4, .ini 5, .ini 8, .ini 9, .ini 7], [.frm 0 28], [.frm 4 32], [.frm 0 28], [.til 7, .frm 6 34, .frm 2 30, .frm 3 31]]
    mixed (by kernel_rfl) (by kernel_rfl) (allPre_of ⟨trivial, trivial, trivial, trivial, trivial, trivial, trivial, (Below.refl _ W).drew, trivial⟩)
    ⟨OpOk.quiet rfl ?_, OpOk.quiet rfl ?_, OpOk.call rfl ?_, OpOk.quiet rfl ?_, OpOk.quiet rfl ?_, OpOk.quiet rfl ?_, OpOk.quiet rfl ?_,
      OpOk.fin rfl ⟨.inr (still_val _), .inr (still_val _), .inr (still_val _), .inr (still_val _), .inr (still_val _), .inr (still_val _), .inr (still_val _), .inl rfl, trivial⟩ (fun a u hf => hf.1) ?_, trivial⟩ ?_
  · intro a u _ hf
    simp [facts, Need.fact, Act.eval] at hf
    go_simp
  · intro a u hG hf
    simp [facts, Need.fact, Act.eval] at hf
    have hrow := (hG.block w.heap.size (lt_of_some r0) (by simp; omega)).trans r0
    have y0 := cellAt hrow 0
    have y1 := cellAt hrow 1
    have y2 := cellAt hrow 2
    have y3 := cellAt hrow 3
    simp only [List.getElem?_toArray, List.getElem?_cons_zero, List.getElem?_cons_succ] at y0 y1 y2 y3
    go_simp
  · intro a u _ hf
    simp [facts, Need.fact, Ent.val, Act.eval] at hf
    refine ⟨_, _, by go_simp, (hsr u).mono ?_⟩
    rintro e w' ⟨rfl, hb⟩
    exact ⟨_, rfl, hb, rfl⟩
  · intro a u _ hf
    simp [facts, Need.fact, Act.eval] at hf
    go_simp
  · intro a u _ hf
    simp [facts, Need.fact, Ent.val, Act.eval] at hf
    go_simp
  · intro a u _ hf
    simp [facts, Need.fact, Ent.val, Act.eval] at hf
    go_simp
  · intro a u _ hf
    simp [facts, Need.fact, Ent.val, Act.eval] at hf
    go_simp
  · intro a u hBu hf
    obtain ⟨-, hf⟩ := hf
    simp [facts, Need.fact, Ent.val, Act.eval] at hf
    refine ⟨_, _, by go_simp, (hfind u (BW.trans (hBu.mono BW.size)) o9 (by omega) #[.pointer (some ⟨w.heap.size, 0, none⟩), .pointer (some ⟨w.heap.size + 1, 0, none⟩), .pointer (some ⟨o9 + 1, 0, none⟩), .pointer (some ⟨o9 + 1 + 1, 0, none⟩), .pointer (some ⟨o9, 0, none⟩)] ((hBu.block _ (lt_of_some rc)).trans rc) ?_).mono ?_⟩
    · intro k n z hk hKz hn hz
      have g0 := (hBu.block _ (lt_of_some r0)).trans r0
      have g1 := (hBu.block _ (lt_of_some r1)).trans r1
      exact ris1_c _ _ _ _ t0 t1 t2 t3 (q k) k n w.heap.size (w.heap.size + 1) (o9 + 1) (o9 + 1 + 1) o9 hn z (hq k hk) ((hKz.block _ (lt_of_some g0) (by simp; omega)).trans g0) ((hKz.block _ (lt_of_some g1) (by simp; omega)).trans g1) hz
    rintro e w' ⟨rfl, hK2, h1⟩
    refine ⟨_, rfl, hK2.size, ⟨hK2.os.trans hBu.os, hK2.tape.trans hBu.tape, hK2.output.trans hBu.output, Nat.le_trans hBu.size hK2.size, fun j hj hx => (hK2.block j (Nat.lt_of_lt_of_le hj hBu.size) hx).trans (hBu.block j hj)⟩, fun j g1 g2 => hK2.block j g2 (by have := lt_of_some rc; simp; omega), h1⟩
  intro u lw hw wc hKp hE hI hD
  simp only [allE, Ent.val, Ent.fin] at hE
  obtain ⟨u0, u1, u2, u3, u4, u5, u6, ⟨g1, g2, mm, g3, g4⟩, -⟩ := hE
  simp only [Nat.reduceAdd] at u0 u1 u2 u3 u4 u5 u6 g2 g3
  simp only [allPut, Act.put, Nat.reduceAdd, u0, u1, u2, u3, u4, u5, u6]
  try simp only [List.setIfInBounds_toArray, List.set_cons_zero, List.set_cons_succ]
  clear hI hD u0 u1 u2 u3 u4 u5 u6 hfind hq hsr
  have c0 := cellAt g3 0
  simp only [List.getElem?_toArray, List.getElem?_cons_zero] at c0
  have hfin := hKp.belowX BW BW.size (by simp; omega)
  rcases Nat.lt_or_ge mm 2 with hm | hm
  · have hd : ¬ (mm : Int) ≥ 2 := by omega
    have hd' := decide_eq_false hd
    have hd2 := decide_eq_false (Nat.not_le_of_gt hm)
    go_wp2
    go_ret
    exact ⟨by rw [← g4, hd2]; rfl, hfin⟩
  · have hd : (mm : Int) ≥ 2 := by omega
    have hd' := decide_eq_true hd
    have hd2 := decide_eq_true hm
    go_wp2
    go_ret
    exact ⟨by rw [← g4, hd2]; rfl, hfin⟩
end Go.Proofs.YtlpibeloedfbdaaGreat
set_option linter.unusedSimpArgs false
set_option linter.unusedVariables false
/-! ringContainsPoint of any ring. -/
namespace Go.Proofs.YtlpibeloedfbdaaGreat
open Go.RowKit PF JR
set_option maxHeartbeats 1000000 in
theorem ray_findR {f : RF} {T : TypeId} {y : Value} {l : List (Int × Int)} {w : World} (H : RingM f T y true l w) (F : FuncId) (caps : Array Value) (hent : ∀ args u, (callFunc F args).run Tryz.prog u = .ok (.enter F args) u) (p : Int × Int) (hpb : Bnd p) (al : Bool)
    (u : World) (hu : Below w.heap.size w u) (nb ib : Nat) (hnl : w.heap.size ≤ nb) (hil : w.heap.size ≤ ib)
    (hn : u.heap[nb]? = some (.cells #[.bool false] 4 (0, 0))) (x0 : Int) (hi0 : u.heap[ib]? = some (.cells #[.int .i64 x0] 3 (0, 0)))
    (hcall : ∀ k z i0 x0, k < nSeg true l → Keep [nb, ib] u z → z.heap[nb]? = some (.cells #[.bool i0] 4 (0, 0)) → z.heap[ib]? = some (.cells #[.int .i64 x0] 3 (0, 0)) →
      Calls Tryz.prog F (#[sgv l k, .int .i64 k] ++ caps) z fun e z' => e = .returned (.bool (!ron l p k)) ∧ z'.heap[nb]? = some (.cells #[.bool ((ron l p k && al) || (!ron l p k && (i0 != rin l p k)))] 4 (0, 0)) ∧ (∃ x1 : Int, z'.heap[ib]? = some (.cells #[.int .i64 x1] 3 (0, 0))) ∧ Keep [nb, ib] z z') :
    Calls Tryz.prog f.srch #[y, .agg #[fl ninf, fl (fb p.2), fl pinf, fl (fb p.2)], .func (.func F) #[] caps] u
      fun e w' => e = .returned (.tuple #[]) ∧ Keep [nb, ib] u w' ∧ w'.heap[nb]? = some (.cells #[.bool ((aon l p (nSeg true l) && al) || (!aon l p (nSeg true l) && xrs l p (nSeg true l)))] 4 (0, 0)) ∧ ∃ x1 : Int, w'.heap[ib]? = some (.cells #[.int .i64 x1] 3 (0, 0)) := by
  have hbd := H.bnd
  obtain ⟨pb1, pb2⟩ := hpb
  refine (srch_any H F caps hent (fun k => decide ((sgx l k).2.1 ≤ p.2 ∧ p.2 ≤ (sgx l k).2.2.2)) (decide ((rbx l (nSeg true l)).2.1 ≤ p.2 ∧ p.2 ≤ (rbx l (nSeg true l)).2.2.2)) ?_ ?_ ?_ [nb, ib] u hu ?_
    (fun k z => z.heap[nb]? = some (.cells #[.bool (xrs l p k)] 4 (0, 0)) ∧ aon l p k = false ∧ ∃ x1 : Int, z.heap[ib]? = some (.cells #[.int .i64 x1] 3 (0, 0)))
    (fun z => z.heap[nb]? = some (.cells #[.bool al] 4 (0, 0)) ∧ aon l p (nSeg true l) = true ∧ ∃ x1 : Int, z.heap[ib]? = some (.cells #[.int .i64 x1] 3 (0, 0))) ?_ ?_ ?_ ?_ ⟨hn, rfl, x0, hi0⟩ ?_ ?_).mono ?_
  · intro k z _
    obtain ⟨k1, k2, k3, k4⟩ := sgx_bd hbd k
    exact rir_ray (fb_rep _ (by omega)) (fb_rep _ (by omega)) (fb_rep _ (by omega)) (fb_rep _ (by omega)) (fb_rep _ (by omega)) z
  · intro z
    obtain ⟨k1, k2, k3, k4⟩ := rbx_bd hbd (nSeg true l)
    exact ray_rir (fb_rep _ (by omega)) (fb_rep _ (by omega)) (fb_rep _ (by omega)) (fb_rep _ (by omega)) (fb_rep _ (by omega)) z
  · intro hf k hk
    obtain ⟨a, b, c, d⟩ := rbx_all l (nSeg true l) k hk
    have := of_decide_eq_false hf
    exact decide_eq_false (by omega)
  · intro x hx
    rcases List.mem_cons.1 hx with rfl | hx
    · exact ⟨hnl, lt_of_some hn, _, _, hn, by decide, by decide⟩
    · obtain rfl : x = ib := by simpa using hx
      exact ⟨hil, lt_of_some hi0, _, _, hi0, by decide, by decide⟩
  · rintro k z ⟨h1, -, x1, h2⟩ x hx
    rcases List.mem_cons.1 hx with rfl | hx
    · exact ⟨_, _, h1, by decide, by decide⟩
    · obtain rfl : x = ib := by simpa using hx
      exact ⟨_, _, h2, by decide, by decide⟩
  · rintro k z z' ⟨h1, h2, x1, h3⟩ he
    exact ⟨(he nb (by simp)).trans h1, h2, x1, (he ib (by simp)).trans h3⟩
  · rintro z z' ⟨h1, h2, x1, h3⟩ he
    exact ⟨(he nb (by simp)).trans h1, h2, x1, (he ib (by simp)).trans h3⟩
  · rintro z ⟨h1, h2, x1, h3⟩ x hx
    rcases List.mem_cons.1 hx with rfl | hx
    · exact lt_of_some h1
    · obtain rfl : x = ib := by simpa using hx
      exact lt_of_some h3
  · rintro k z hk hK ⟨h1, h2, x1, h3⟩
    refine (hcall k z _ x1 hk hK h1 h3).mono ?_
    rintro e z' ⟨rfl, g1, g2, g3⟩
    refine ⟨_, rfl, g3, fun hc => ?_, fun hc => ?_⟩
    · have hr : ron l p k = false := by cases hh : ron l p k <;> simp_all
      rw [hr] at g1
      refine ⟨?_, by rw [aon, h2, hr]; rfl, g2⟩
      rw [g1, xrs]
      simp
    · have hr : ron l p k = true := by cases hh : ron l p k <;> simp_all
      rw [hr] at g1
      refine ⟨?_, aon_mono (k := k + 1) (by rw [aon, hr]; simp) _ (by omega), g2⟩
      rw [g1]
      simp
  · rintro k z hk hit ⟨h1, h2, h3⟩
    have hit' := of_decide_eq_false hit
    refine ⟨?_, by rw [aon, h2, ron_hit hit']; rfl, h3⟩
    rw [h1, xrs, rin_hit hit']
    simp
  · rintro e w' ⟨rfl, hK, h⟩
    rcases h with ⟨h1, h2, h3⟩ | ⟨h1, h2, h3⟩
    · exact ⟨rfl, hK, by rw [h1, h2]; simp, h3⟩
    · exact ⟨rfl, hK, by rw [h1, h2]; simp, h3⟩
theorem entG (args : Array Value) (u : World) : (callFunc 123 args).run Tryz.prog u = .ok (.enter 123 args) u := by kernel_rfl
/-- the closure -/
theorem cpg_c (a b c d x y : Nat) (ri ro al i0 : Bool) (k : Int) (pb ab nb ib : Nat) (hne : nb ≠ ib) (x0 : Int) (u : World)
    (hray : ∀ u, Calls Tryz.prog 106 #[.agg #[fl a, fl b, fl c, fl d], .agg #[fl x, fl y]] u fun e w' => e = .returned (.agg #[.bool ri, .bool ro]) ∧ Below u.heap.size u w')
    (hp : u.heap[pb]? = some (.cells #[fl x, fl y] 50 (0, 0))) (ha : u.heap[ab]? = some (.cells #[.bool al] 4 (0, 0)))
    (hn : u.heap[nb]? = some (.cells #[.bool i0] 4 (0, 0))) (hi : u.heap[ib]? = some (.cells #[.int .i64 x0] 3 (0, 0))) :
    Calls Tryz.prog 123 #[.agg #[fl a, fl b, fl c, fl d], .int .i64 k, .pointer (some ⟨pb, 0, none⟩), .pointer (some ⟨ab, 0, none⟩), .pointer (some ⟨ib, 0, none⟩), .pointer (some ⟨nb, 0, none⟩)] u
      fun e u' => e = .returned (.bool (!ro)) ∧ u'.heap[nb]? = some (.cells #[.bool ((ro && al) || (!ro && (i0 != ri)))] 4 (0, 0)) ∧ (∃ x1 : Int, u'.heap[ib]? = some (.cells #[.int .i64 x1] 3 (0, 0))) ∧ Keep [nb, ib] u u' := by
  have st0 := (Blk.nil u).push rfl #[fl a, fl b, fl c, fl d] 73
  have hB1 := st0.hb
  have q0 := st0.cell 0 rfl 0
  have q1 := st0.cell 0 rfl 1
  have q2 := st0.cell 0 rfl 2
  have q3 := st0.cell 0 rfl 3
  have hn1 := (hB1.block nb (lt_of_some hn)).trans hn
  have hi1 := (hB1.block ib (lt_of_some hi)).trans hi
  have p0 := cellAt ((hB1.block pb (lt_of_some hp)).trans hp) 0
  have p1 := cellAt ((hB1.block pb (lt_of_some hp)).trans hp) 1
  have a0 := cellAt ((hB1.block ab (lt_of_some ha)).trans ha) 0
  simp only [List.getElem?_toArray, List.getElem?_cons_zero, List.getElem?_cons_succ] at p0 p1 q0 q1 q2 q3 a0
  have hc := cps_c a b c d x y ri ro al i0 k nb ib hne x0 _ hray hn1 hi1
  have hK1 : ∀ w', Keep [nb, ib] (u.alloc (.cells #[fl a, fl b, fl c, fl d] 73)) w' → Keep [nb, ib] u w' := fun w' h => ⟨h.os.trans hB1.os, h.tape.trans hB1.tape, h.output.trans hB1.output, Nat.le_trans hB1.size h.size, fun j hj hx => (h.block j (Nat.lt_of_lt_of_le hj hB1.size) hx).trans (hB1.block j hj)⟩
  clear hray
  go_enter Tryz.func123, Tryz.ntmps123
  go_wp2_with (go_at_call 122; refine JR.StopM.out ?_)
  refine ⟨?_⟩
  refine hc.mono ?_
  rintro e w1 ⟨rfl, h1, h2, h3⟩
  go_wp2
  go_ret
  exact ⟨rfl, h1, h2, hK1 _ h3⟩
set_option maxRecDepth 100000 in
set_option maxHeartbeats 2000000 in
theorem rcgn_c {f : RF} {T : TypeId} {y : Value} {l : List (Int × Int)} {w : World} (H : RingM f T y true l w) (p : Int × Int) (hpb : Bnd p) (al : Bool) (hray : ∀ k, k < nSeg true l → RayAt l p k) :
    Calls Tryz.prog 114 #[.agg #[fl ninf, fl (fb p.2), fl pinf, fl (fb p.2)], .iface T y, .agg #[fl (fb p.1), fl (fb p.2)], .bool al] w fun e w' => ∃ x : Int, e = .returned (.tuple #[.bool ((aon l p (nSeg true l) && al) || (!aon l p (nSeg true l) && xrs l p (nSeg true l))), .int .i64 x]) ∧ Below w.heap.size w w' := by
  obtain ⟨ms, es⟩ := H.msrch
  have st0 := ((((Blk.nil w).push rfl #[fl ninf, fl (fb p.2), fl pinf, fl (fb p.2)] 52).push (b := w.heap.size + 1) (by simp) #[fl (fb p.1), fl (fb p.2)] 50).push (b := w.heap.size + 2) (by simp) #[.bool al] 4).push (b := w.heap.size + 3) (by simp) #[.int .i64 0] 3
  have x0 := st0.cell 0 rfl 0
  have fx := st0.frozen 0 rfl 0
  have r0 := st0.cell 3 rfl 0
  have r1 := st0.cell 3 rfl 1
  have r2 := st0.cell 3 rfl 2
  have r3 := st0.cell 3 rfl 3
  simp only [List.getElem?_toArray, List.getElem?_cons_zero, List.getElem?_cons_succ] at x0 r0 r1 r2 r3
  have hfind := fun u hu nb ib h1 h2 hn x0 hi0 caps hcall => ray_findR H 123 caps entG p hpb al u hu nb ib h1 h2 hn x0 hi0 hcall
  obtain ⟨r, hr⟩ : ∃ r, ((aon l p (nSeg true l) && al) || (!aon l p (nSeg true l) && xrs l p (nSeg true l))) = r := ⟨_, rfl⟩
  simp only [hr] at hfind
  simp only [hr]
  unfold RayAt at hray
  go_enter Tryz.func114, Tryz.ntmps114
  go_wp2_with (with_reducible refine stopC f.srch ?_)
  refine ⟨?_⟩
  have st1 := (((((Blk.nil w).push rfl #[fl ninf, fl (fb p.2), fl pinf, fl (fb p.2)] 52).push (b := w.heap.size + 1) (by simp) #[fl (fb p.1), fl (fb p.2)] 50).push (b := w.heap.size + 1 + 1) (by simp) #[.bool al] 4).push (b := w.heap.size + 1 + 1 + 1) (by simp) #[.int .i64 (-1)] 3).push (b := w.heap.size + 1 + 1 + 1 + 1) (by simp) #[.bool false] 4
  clear st0 x0 fx r0 r1 r2 r3
  refine (hfind _ st1.hb (w.heap.size + 1 + 1 + 1 + 1) (w.heap.size + 1 + 1 + 1) (by omega) (by omega) (st1.known 0 _ rfl) (-1) (st1.known 1 _ rfl) _ ?_).mono ?_
  · intro k z i0 x0 hk hK hn hi
    exact cpg_c _ _ _ _ _ _ (rin l p k) (ron l p k) al i0 k (w.heap.size + 1) (w.heap.size + 1 + 1) (w.heap.size + 1 + 1 + 1 + 1) (w.heap.size + 1 + 1 + 1) (by omega) x0 z (hray k hk) ((hK.block _ (lt_of_some (st1.known 3 _ rfl)) (by simp)).trans (st1.known 3 _ rfl)) ((hK.block _ (lt_of_some (st1.known 2 _ rfl)) (by simp)).trans (st1.known 2 _ rfl)) hn hi
  rintro e w1 ⟨rfl, hK, h1, x1, h2⟩
  have hB := hK.belowX (B := w.heap.size) st1.hb st1.hb.size (by simp; omega)
  have n0 := cellAt h1 0
  have i0 := cellAt h2 0
  simp only [List.getElem?_toArray, List.getElem?_cons_zero, List.getElem?_cons_succ] at n0 i0
  clear st1 hK h1 h2 hfind hray
  go_upto_region 4 with (fail)
  go_quiet (fail)
  go_wp2
  go_ret2
  exact ⟨x1, rfl, below_drewN hB _⟩
end Go.Proofs.YtlpibeloedfbdaaGreat
set_option linter.unusedSimpArgs false
set_option linter.unusedVariables false
/-! ringContainsPoint of a rectangle (printed by gen/lf.py); of any ring. -/
namespace Go.Proofs.YtlpibeloedfbdaaGreat
open Go.RowKit PF JR
set_option maxRecDepth 100000 in
set_option maxHeartbeats 4000000 in
theorem ringcpR_c (R0 R1 R2 R3 px py : Nat) (al q r : Bool) (w : World)
    (hin : ∀ u, Calls Tryz.prog 22 #[.agg #[fl R0, fl R1, fl R2, fl R3], .agg #[fl px, fl py]] u fun e w' => e = .returned (.bool q) ∧ Below u.heap.size u w')
    (hgen : ∀ u, Below w.heap.size w u → Calls Tryz.prog 114 #[.agg #[fl ninf, fl py, fl pinf, fl py], .iface 52 (.agg #[fl R0, fl R1, fl R2, fl R3]), .agg #[fl px, fl py], .bool al] u fun e w' => ∃ x : Int, e = .returned (.tuple #[.bool r, .int .i64 x]) ∧ Below u.heap.size u w') :
    Calls Tryz.prog 107 #[.iface 52 (.agg #[fl R0, fl R1, fl R2, fl R3]), .agg #[fl px, fl py], .bool al] w fun e w' => ∃ x : Int, e = .returned (.agg #[.bool (q && r), .int .i64 x]) ∧ Below w.heap.size w w' := by
  have st0 := ((Blk.nil w).push rfl #[fl px, fl py] 50).push (b := w.heap.size + 1) (by simp) #[.bool false, .int .i64 0] 167
  go_enter Tryz.func107, Tryz.ntmps107
  go_wp2
  generalize hW : (w.alloc (.cells #[fl px, fl py] 50)).alloc (.cells #[.bool false, .int .i64 0] 167) = W at *
  refine wp_region_K [] [.val (.iface 52 (.agg #[fl R0, fl R1, fl R2, fl R3])), .val (.agg #[fl R0, fl R1, fl R2, fl R3]), .val (.agg #[fl px, fl py]), .val (.bool q), .val (.bool (!q))]
    [[.ini 0], [.frm 0 12], [.ini 4], [.frm 1 13, .frm 2 14], [.frm 3 15]]
    mixed (by kernel_rfl) (by kernel_rfl) (allPre_of ⟨trivial, trivial, trivial, trivial, trivial, trivial⟩)
    ⟨OpOk.quiet rfl ?_, OpOk.call rfl ?_, OpOk.quiet rfl ?_, OpOk.call rfl ?_, OpOk.quiet rfl ?_, trivial⟩ ?_
  · intro a u _ hf
    simp [facts, Need.fact, Act.eval] at hf
    go_simp
  · intro a u hG hf
    simp [facts, Need.fact, Ent.val, Act.eval] at hf
    refine ⟨130, #[.agg #[fl R0, fl R1, fl R2, fl R3]], by go_simp; kernel_rfl, (rrct_c R0 R1 R2 R3 u).mono ?_⟩
    rintro e w' ⟨rfl, hb⟩
    exact ⟨_, rfl, hb, rfl⟩
  · intro a u hG hf
    simp [facts, Need.fact, Act.eval] at hf
    have stu := st0.keep hG (fun i x _ => by simp) (fun x hx => by simp at hx)
    have y0 := stu.cell 1 rfl 0
    have y1 := stu.cell 1 rfl 1
    simp only [List.getElem?_toArray, List.getElem?_cons_zero, List.getElem?_cons_succ] at y0 y1
    go_simp
  · intro a u _ hf
    simp [facts, Need.fact, Ent.val, Act.eval] at hf
    refine ⟨_, _, by go_simp, (hin u).mono ?_⟩
    rintro e w' ⟨rfl, hb⟩
    exact ⟨_, rfl, hb, rfl⟩
  · intro a u _ hf
    simp [facts, Need.fact, Ent.val, Act.eval] at hf
    go_simp
  intro u lw hw wc hKp hE hI hD
  simp only [allE, Ent.val] at hE
  obtain ⟨u0, u1, u2, u3, u4, -⟩ := hE
  simp only [Nat.reduceAdd] at u0 u1 u2 u3 u4
  simp only [allPut, Act.put, Nat.reduceAdd, u0, u1, u2, u3, u4]
  try simp only [List.setIfInBounds_toArray, List.set_cons_zero, List.set_cons_succ]
  clear hI hD u0 u1 u2 u3 u4 hin
  have st1 := st0.keep hKp (fun i x _ => by simp) (fun x hx => by simp at hx)
  clear st0 hKp hW
  have c0 := st1.cell 0 rfl 0
  have c1 := st1.cell 0 rfl 1
  have f0 := fun o => st1.frozen 0 rfl o
  have y0 := st1.cell 1 rfl 0
  have y1 := st1.cell 1 rfl 1
  simp only [List.getElem?_toArray, List.getElem?_cons_zero, List.getElem?_cons_succ] at c0 c1 y0 y1
  cases q with
  | false =>
    clear hgen
    go_wp2
    exact bodyPost_ret (v := .agg #[.bool false, .int .i64 (-1)]) (by simp [results, Tryz.results107, go_sem, c0, c1]) rfl ⟨-1, rfl, by
      iterate 2 refine Below.setCell ?_ (by show w.heap.size ≤ w.heap.size + 1; omega) _
      exact st1.hb⟩
  | true =>
    go_wp2
    refine wp_region_K [] [.val (fl ninf), .val (.pointer (some ⟨w.heap.size, 1, none⟩)), .val (fl py), .val (.agg #[fl ninf, fl py]), .val (fl pinf), .val (.pointer (some ⟨w.heap.size, 1, none⟩)), .val (fl py), .val (.agg #[fl pinf, fl py]),
        .val (.agg #[fl ninf, fl py, fl pinf, fl py]), .made 52 4, .filled 9 #[fl ninf, fl py, fl pinf, fl py] 52]
      [[], [.ini 4], [.frm 1 19], [.frm 0 18, .frm 2 20], [], [.ini 4], [.frm 5 23], [.frm 4 22, .frm 6 24], [.frm 3 21, .frm 7 25], [], [.frm 9 9, .frm 8 26]]
      mixed (by kernel_rfl) (by kernel_rfl) (allPre_of ⟨trivial, trivial, trivial, trivial, trivial, trivial, trivial, trivial, trivial, trivial, trivial, trivial⟩)
      ⟨OpOk.call rfl ?_, OpOk.quiet rfl ?_, OpOk.quiet rfl ?_, OpOk.quiet rfl ?_, OpOk.call rfl ?_, OpOk.quiet rfl ?_, OpOk.quiet rfl ?_, OpOk.quiet rfl ?_, OpOk.quiet rfl ?_,
        OpOk.made (cs := #[fl 0, fl 0, fl 0, fl 0]) rfl rfl ?_,
        OpOk.fillRow (k := 9) rfl rfl (by kernel_rfl) rfl (oldLt_of ⟨(fun _ h => (nomatch h)), (fun _ h => (nomatch h)), (fun _ h => (nomatch h)), (fun _ h => (nomatch h)), (fun _ h => (nomatch h)), (fun _ h => (nomatch h)), (fun _ h => (nomatch h)), (fun _ h => (nomatch h)), (fun _ h => (nomatch h)), (fun _ h => (nomatch h)), (fun _ h => (nomatch h)), trivial⟩) (by kernel_rfl) (by simp [Value.oneCell']) (fun a w hf => ⟨hf.1, hf.2.1.elim fun _ h => h.elim fun _ h => h⟩) (fun _ _ _ h hb => Keep.setRow h (.inl hb)), trivial⟩ ?_
    · intro a u _ hf
      refine ⟨_, _, by go_simp, (ninf_c u).mono ?_⟩
      rintro e w' ⟨rfl, rfl⟩
      exact ⟨_, rfl, Ext.refl _, rfl⟩
    · intro a u _ hf
      simp [facts, Need.fact, Act.eval] at hf
      go_simp
    · intro a u hG hf
      simp [facts, Need.fact, Ent.val, Act.eval] at hf
      have z1 := (hG.cell (p := ⟨w.heap.size, 1, none⟩) (st1.lt 1 rfl) (by simp)).trans y1
      go_simp
    · intro a u _ hf
      simp [facts, Need.fact, Ent.val, Act.eval] at hf
      go_simp
    · intro a u _ hf
      refine ⟨_, _, by go_simp, (inf_c u).mono ?_⟩
      rintro e w' ⟨rfl, rfl⟩
      exact ⟨_, rfl, Ext.refl _, rfl⟩
    · intro a u _ hf
      simp [facts, Need.fact, Act.eval] at hf
      go_simp
    · intro a u hG hf
      simp [facts, Need.fact, Ent.val, Act.eval] at hf
      have z1 := (hG.cell (p := ⟨w.heap.size, 1, none⟩) (st1.lt 1 rfl) (by simp)).trans y1
      go_simp
    · intro a u _ hf
      simp [facts, Need.fact, Ent.val, Act.eval] at hf
      go_simp
    · intro a u _ hf
      simp [facts, Need.fact, Ent.val, Act.eval] at hf
      go_simp
    · intro a u _ _
      go_simp
    intro u lw hw wd hKp hE hI hD
    simp [allE, allPut, Act.put, Act.eval, Ent.filledP, Ent.made, Ent.val] at hE
    obtain ⟨u0, u1, u2, u3, u4, u5, u6, u7, u8, ⟨b9, u9, l9, h9, -⟩, ⟨c9, v9, g9⟩⟩ := hE
    obtain rfl : b9 = c9 := by rw [u9] at v9; simpa using v9
    simp only [allPut, Act.put, u0, u1, u2, u3, u4, u5, u6, u7, u8, u9]
    try simp only [List.setIfInBounds_toArray, List.set_cons_zero, List.set_cons_succ]
    clear u0 u1 u2 u3 u4 u5 u6 u7 u8 u9 v9 hI hD l9 h9
    have st2 := (st1.keep hKp (fun i x _ => by simp) (fun x hx => by simp at hx)).add g9
    have hta : ∀ u, (Instr.typeAssert (.iface 52 (.agg #[fl R0, fl R1, fl R2, fl R3])) 87 95 true).run Tryz.prog u = .ok (.tuple #[.pointer none, .bool false]) u := fun u => by kernel_rfl
    have d0 := st2.cell 0 rfl 0
    have d1 := st2.cell 0 rfl 1
    have d2 := st2.cell 0 rfl 2
    have d3 := st2.cell 0 rfl 3
    have e0 := st2.cell 2 rfl 0
    have e1 := st2.cell 2 rfl 1
    simp only [List.getElem?_toArray, List.getElem?_cons_zero, List.getElem?_cons_succ] at d0 d1 d2 d3 e0 e1
    have hc := fun u (h : Below w.heap.size w u) => hgen u h
    clear st1 g9 hKp hgen c0 c1 f0 y0 y1
    go_wp2_with (go_at_call 114; refine JR.StopM.out ?_)
    refine ⟨?_⟩
    refine (hc _ st2.hb).mono ?_
    rintro e w2 ⟨x, rfl, hb⟩
    have st3 := st2.ext hb
    have c0 := st3.cell 1 rfl 0
    have c1 := st3.cell 1 rfl 1
    have f0 := fun o => st3.frozen 1 rfl o
    simp only [List.getElem?_toArray, List.getElem?_cons_zero, List.getElem?_cons_succ] at c0 c1
    clear hc hb st2 d0 d1 d2 d3 e0 e1 hta
    go_wp2
    exact bodyPost_ret (v := .agg #[.bool r, .int .i64 x]) (by simp [results, Tryz.results107, go_sem, c0, c1]) rfl ⟨x, by simp, by
      iterate 2 refine Below.setCell ?_ (by show w.heap.size ≤ w.heap.size + 1; omega) _
      exact st3.hb⟩
/-- what ringContainsPoint says of a ring -/
def CpOk (T : TypeId) (y : Value) (l : List (Int × Int)) (w : World) : Prop :=
  ∀ (p : Int × Int) (al : Bool) (u : World), Below w.heap.size w u → Bnd p → (∀ k, k < nSeg true l → RayAt l p k) →
    Calls Tryz.prog 107 #[.iface T y, .agg #[fl (fb p.1), fl (fb p.2)], .bool al] u fun e w' => ∃ x : Int, e = .returned (.agg #[.bool (ringHas l p al), .int .i64 x]) ∧ Below u.heap.size u w'
theorem CpOk.below {T : TypeId} {y : Value} {l : List (Int × Int)} {w w' : World} (H : CpOk T y l w) (hb : Below w.heap.size w w') : CpOk T y l w' :=
  fun p al u hu => H p al u (hb.trans (hu.mono hb.size))
theorem bsCp (K : Nat) (hK : K ≤ 2) {l : List (Int × Int)} (hl : l.length ≤ 12) (h2l : 2 ≤ l.length) (hbd : ∀ p ∈ l, Bnd p) {T : TypeId} {lo b : Nat} {w : World} (H : SkP K true l T lo w.heap.size b w) : CpOk 95 (.pointer (some ⟨b, 0, none⟩)) l w :=
  fun p al u hu hp hray => polyRing_c al K hK l hl h2l hbd p hp hray T lo b w H u hu
theorem rcCp {a b c d : Int} (h1 : a < c) (h2 : b < d) (hbd : ∀ p ∈ rl a b c d, Bnd p) (w : World) : CpOk 52 (.agg #[fl (fb a), fl (fb b), fl (fb c), fl (fb d)]) (rl a b c d) w := by
  intro p al u hu hp hray
  have ha := hbd (a, b) (by simp [rl])
  have hc := hbd (c, d) (by simp [rl])
  have hp2 := hp
  unfold Bnd at ha hc hp2
  simp only at ha hc
  unfold ringHas
  rw [rl_box (by omega) (by omega)]
  exact ringcpR_c _ _ _ _ _ _ al _ _ u (fun z => rcp_c (fb_rep a (by omega)) (fb_rep b (by omega)) (fb_rep c (by omega)) (fb_rep d (by omega)) (fb_rep p.1 (by omega)) (fb_rep p.2 (by omega)) z)
    (fun z hz => rcgn_c (rcRing h1 h2 hbd z) p hp al hray)
end Go.Proofs.YtlpibeloedfbdaaGreat
