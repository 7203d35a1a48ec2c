import Derived.Test.YtlpibeloedfbdaaGreatQM
import Derived.Test.YtlpibeloedfbdaaGreatQI
set_option linter.unusedSimpArgs false
set_option linter.unusedVariables false
/-! What rings say of one another, as plain functions. -/
namespace PF
def Bn3 (p : Int × Int) : Prop := p.1.natAbs ≤ 12288 ∧ p.2.natAbs ≤ 12288
theorem Bn3.b {p : Int × Int} (h : Bn3 p) : Bnd p := by unfold Bn3 at h; unfold Bnd; omega
theorem at_bn3 {l : List (Int × Int)} (h : ∀ p ∈ l, Bn3 p) (k : Nat) : Bn3 (at' l k) := by
  rcases Nat.lt_or_ge k l.length with h1 | h1
  · exact h _ (List.mem_of_getElem? (at_get h1))
  · unfold at' Bn3; simp [List.getD, List.getElem?_eq_none h1]
theorem nx_bn3 {l : List (Int × Int)} (h : ∀ p ∈ l, Bn3 p) (k : Nat) : Bn3 (nxp l k) := by
  unfold nxp; split <;> exact at_bn3 h _
/-- segment i of m and segment k of l -/
def sxs (m : List (Int × Int)) (i : Nat) (l : List (Int × Int)) (k : Nat) : Bool := sx (at' m i).1 (at' m i).2 (nxp m i).1 (nxp m i).2 (at' l k).1 (at' l k).2 (nxp l k).1 (nxp l k).2
/-- two rectangles meet; the first contains the second -/
def bmB (a b : Int × Int × Int × Int) : Bool := decide (a.1 ≤ b.2.2.1 ∧ b.1 ≤ a.2.2.1 ∧ a.2.1 ≤ b.2.2.2 ∧ b.2.1 ≤ a.2.2.2)
def bcB (a b : Int × Int × Int × Int) : Bool := decide (a.1 ≤ b.1 ∧ b.2.2.1 ≤ a.2.2.1 ∧ a.2.1 ≤ b.2.1 ∧ b.2.2.2 ≤ a.2.2.2)
end PF
namespace Go.Proofs.YtlpibeloedfbdaaGreat
open Go.RowKit PF JR
/-- the ring l and segment i of m meet -/
def risV (l m : List (Int × Int)) (i : Nat) : Bool := bmB (sgx m i) (ppB true l) && (ringHas l (at' m i) true || ringHas l (nxp m i) true || decide (2 ≤ cntN (sxs m i l) (nSeg true l)))
/-- two rings meet -/
def rirV (l m : List (Int × Int)) : Bool := bmB (ppB true l) (ppB true m) && (if arB (ppB true l) < arB (ppB true m) then anyN (risV m l) (nSeg true l) else anyN (risV l m) (nSeg true m))
/-- a ring and a line meet -/
def rilV (l m : List (Int × Int)) : Bool := bmB (ppB true l) (ppB false m) && (anyN (fun k => ringHas l (at' m k) true) m.length || anyN (risV l m) (m.length - 1))
/-- the ring l holds segment i of m, off its edge -/
def rcsV (l m : List (Int × Int)) (i : Nat) : Bool := inB (ppB true l) (at' m i) && (inB (ppB true l) (nxp m i) && (ringHas l (at' m i) false && (decide ((nxp m i).1 = (at' m i).1 ∧ (nxp m i).2 = (at' m i).2) || (ringHas l (nxp m i) false && (ppV true l || !anyN (sxs m i l) (nSeg true l))))))
/-- the ring l holds the ring or line m, off its edge -/
def rcrV (l : List (Int × Int)) (cl : Bool) (m : List (Int × Int)) : Bool := bcB (ppB true l) (ppB cl m) && (if ppV true l = true then allN (fun k => ringHas l (at' m k) false) m.length else allN (rcsV l m) (nSeg cl m))
theorem sx_miss {l m : List (Int × Int)} {i k : Nat} (h : hitR l (sgx m i).1 (sgx m i).2.1 (sgx m i).2.2.1 (sgx m i).2.2.2 k = false) : sxs m i l k = false := by
  unfold hitR at h
  have h := of_decide_eq_false h
  unfold sgx at h
  simp only at h
  unfold sxs
  by_cases hy : ((at' m i).2 < (at' l k).2 ∧ (at' m i).2 < (nxp l k).2 ∧ (nxp m i).2 < (at' l k).2 ∧ (nxp m i).2 < (nxp l k).2) ∨ ((at' l k).2 < (at' m i).2 ∧ (at' l k).2 < (nxp m i).2 ∧ (nxp l k).2 < (at' m i).2 ∧ (nxp l k).2 < (nxp m i).2)
  · exact sx_y hy
  · exact sx_x (by omega)
theorem six_q {l m : List (Int × Int)} (hl : ∀ p ∈ l, Bn3 p) (hm : ∀ p ∈ m, Bn3 p) (i k : Nat) (u : World) :
    Calls Tryz.prog 139 #[sgv m i, sgv l k] u fun e w' => e = .returned (.bool (sxs m i l k)) ∧ Below u.heap.size u w' := by
  have a1 := at_bn3 hm i
  have a2 := nx_bn3 hm i
  have a3 := at_bn3 hl k
  have a4 := nx_bn3 hl k
  unfold Bn3 at a1 a2 a3 a4
  exact six_c (fb_rep (at' m i).1 (by omega)) (fb_rep (at' m i).2 (by omega)) (fb_rep (nxp m i).1 (by omega)) (fb_rep (nxp m i).2 (by omega)) (fb_rep (at' l k).1 (by omega)) (fb_rep (at' l k).2 (by omega)) (fb_rep (nxp l k).1 (by omega)) (fb_rep (nxp l k).2 (by omega)) (by omega) (by omega) u
theorem ray_q3 {l : List (Int × Int)} {p : Int × Int} (hl : ∀ q ∈ l, Bn3 q) (hp : Bn3 p) (k : Nat) : RayAt l p k := fun u => by
  have h1 := at_bn3 hl k
  have h2 := nx_bn3 hl k
  unfold Bn3 at h1 h2 hp
  exact raycast_c (fb_rep _ (by omega)) (fb_rep _ (by omega)) (fb_rep _ (by omega)) (fb_rep _ (by omega)) (fb_rep _ (by omega)) (fb_rep _ (by omega)) (by omega) u
/-- a ring of points that are not far -/
structure RG (f : RF) (T : TypeId) (y : Value) (l : List (Int × Int)) (w : World) : Prop where
  r : RingM f T y true l w
  c : CpOk T y l w
  b : ∀ p ∈ l, Bn3 p
theorem RG.below {f : RF} {T : TypeId} {y : Value} {l : List (Int × Int)} {w w' : World} (H : RG f T y l w) (hb : Below w.heap.size w w') : RG f T y l w' := ⟨H.r.below hb, H.c.below hb, H.b⟩
section
variable {f f2 : RF} {T T2 : TypeId} {y y2 : Value} {l m : List (Int × Int)} {w : World}
theorem RG.bx (H : RG f T y l w) : BdR (ppB true l) := ppB_bd H.r.two H.r.bnd
theorem RG.cp (H : RG f T y l w) {p : Int × Int} (hp : Bn3 p) (al : Bool) (u : World) (hu : Below w.heap.size w u) :
    Calls Tryz.prog 107 #[.iface T y, .agg #[fl (fb p.1), fl (fb p.2)], .bool al] u fun e w' => ∃ x : Int, e = .returned (.agg #[.bool (ringHas l p al), .int .i64 x]) ∧ Below u.heap.size u w' :=
  H.c p al u hu hp.b fun k _ => ray_q3 H.b hp k
theorem ris_q (H : RG f T y l w) (hm : ∀ p ∈ m, Bn3 p) (i : Nat) (u : World) (hu : Below w.heap.size w u) :
    Calls Tryz.prog 136 #[.iface T y, sgv m i, .bool true] u fun e w' => e = .returned (.bool (risV l m i)) ∧ Below u.heap.size u w' :=
  ris_c (H.r.below hu) m (fun p hp => (hm p hp).b) i _ _ (sxs m i l) (fun z hz => H.cp (at_bn3 hm i) true z (hu.trans (hz.mono hu.size))) (fun z hz => H.cp (nx_bn3 hm i) true z (hu.trans (hz.mono hu.size)))
    (fun k _ z => six_q H.b hm i k z) (fun _ _ h => sx_miss h) H.bx
theorem rcs_q (H : RG f T y l w) (hm : ∀ p ∈ m, Bn3 p) (i : Nat) (u : World) (hu : Below w.heap.size w u) :
    Calls Tryz.prog 144 #[.iface T y, sgv m i, .bool false] u fun e w' => e = .returned (.bool (rcsV l m i)) ∧ Below u.heap.size u w' :=
  rcs_c (H.r.below hu) H.bx m (fun p hp => (hm p hp).b) i _ _ (sxs m i l) (fun z hz => H.cp (at_bn3 hm i) false z (hu.trans (hz.mono hu.size))) (fun z hz => H.cp (nx_bn3 hm i) false z (hu.trans (hz.mono hu.size)))
    (fun k _ z => six_q H.b hm i k z) (fun _ _ h => sx_miss h)
theorem rir_q (H : RG f T y l w) (H2 : RG f2 T2 y2 m w) (u : World) (hu : Below w.heap.size w u) :
    Calls Tryz.prog 141 #[.iface T y, .iface T2 y2, .bool true] u fun e w' => e = .returned (.bool (rirV l m)) ∧ Below u.heap.size u w' :=
  rir2_c (H.r.below hu) (H2.r.below hu) H.bx H2.bx (risV l m) (risV m l) (fun i _ z hz => ris_q H H2.b i z (hu.trans (hz.mono hu.size))) (fun i _ z hz => ris_q H2 H.b i z (hu.trans (hz.mono hu.size)))
theorem ril_q (H : RG f T y l w) (K : Nat) (hm12 : m.length ≤ 12) (hm2 : 2 ≤ m.length) (hm : ∀ p ∈ m, Bn3 p) (lo c : Nat) (S : SkP K false m 83 lo w.heap.size c w) (u : World) (hu : Below w.heap.size w u) :
    Calls Tryz.prog 132 #[.iface T y, .pointer (some ⟨c, 0, none⟩), .bool true] u fun e w' => e = .returned (.bool (rilV l m)) ∧ Below u.heap.size u w' :=
  ril_c (H.r.below hu) H.bx K m hm12 hm2 (fun p hp => (hm p hp).b) lo c ((S.below hu).wide (Nat.le_refl _) hu.size) _ _ (fun k _ z hz => H.cp (at_bn3 hm k) true z (hu.trans (hz.mono hu.size))) (fun i _ z hz => ris_q H hm i z (hu.trans (hz.mono hu.size)))
theorem rcr_q {cl : Bool} (H : RG f T y l w) (H2 : RingM f2 T2 y2 cl m w) (hm : ∀ p ∈ m, Bn3 p) (hbm : BdR (ppB cl m)) (u : World) (hu : Below w.heap.size w u) :
    Calls Tryz.prog 142 #[.iface T y, .iface T2 y2, .bool false] u fun e w' => e = .returned (.bool (rcrV l cl m)) ∧ Below u.heap.size u w' :=
  rcr2_c (H.r.below hu) (H2.below hu) H.bx hbm _ _ (fun k _ z hz => H.cp (at_bn3 hm k) false z (hu.trans (hz.mono hu.size))) (fun i _ z hz => rcs_q H hm i z (hu.trans (hz.mono hu.size)))
end
end Go.Proofs.YtlpibeloedfbdaaGreat
