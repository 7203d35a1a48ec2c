import Derived.Test.YtdlcckkphjpeoaaGreatQK
import Derived.Test.YtdlcckkphjpeoaaGreatQI
set_option linter.unusedSimpArgs false
set_option linter.unusedVariables false
/-! FnLineSegments: what segments say of one another, and of a point. -/
namespace PF
def rin (l : List (Int × Int)) (p : Int × Int) (k : Nat) : Bool := rcIn (at' l k).1 (at' l k).2 (nxp l k).1 (nxp l k).2 p.1 p.2
def ron (l : List (Int × Int)) (p : Int × Int) (k : Nat) : Bool := rcOn (at' l k).1 (at' l k).2 (nxp l k).1 (nxp l k).2 p.1 p.2
end PF
namespace Go.Proofs.YtdlcckkphjpeoaaGreat
open Go.RowKit PF JR
/-- small points -/
def Bn1 (p : Int × Int) : Prop := p.1.natAbs ≤ 1024 ∧ p.2.natAbs ≤ 1024
theorem at_bn1 {l : List (Int × Int)} (h : ∀ p ∈ l, Bn1 p) (k : Nat) : Bn1 (at' l k) := by
  rcases Nat.lt_or_ge k l.length with h1 | h1
  · exact h _ (List.mem_of_getElem? (at_get h1))
  · unfold at' Bn1; simp [List.getD, List.getElem?_eq_none h1]
theorem nx_bn1 {l : List (Int × Int)} (h : ∀ p ∈ l, Bn1 p) (k : Nat) : Bn1 (nxp l k) := by
  unfold nxp; split <;> exact at_bn1 h _
/-- segment i of l and segment k of m meet; they lie on one line -/
def qq (l m : List (Int × Int)) (i k : Nat) : Bool := meets (at' l i).1 (at' l i).2 (nxp l i).1 (nxp l i).2 (at' m k).1 (at' m k).2 (nxp m k).1 (nxp m k).2
def oo (l m : List (Int × Int)) (i k : Nat) : Bool := ovl (at' l i).1 (at' l i).2 (nxp l i).1 (nxp l i).2 (at' m k).1 (at' m k).2 (nxp m k).1 (nxp m k).2
theorem meets_sym {Ax Ay Bx By Cx Cy Dx Dy : Int} : meets Cx Cy Dx Dy Ax Ay Bx By = meets Ax Ay Bx By Cx Cy Dx Dy := by
  unfold meets
  exact decide_eq_decide.2 ⟨fun ⟨a, b⟩ => ⟨b, a⟩, fun ⟨a, b⟩ => ⟨b, a⟩⟩
theorem ovl_sym {Ax Ay Bx By Cx Cy Dx Dy : Int} : ovl Cx Cy Dx Dy Ax Ay Bx By = ovl Ax Ay Bx By Cx Cy Dx Dy := by
  unfold ovl
  exact Bool.or_comm _ _
theorem qq_miss {l m : List (Int × Int)} {i k : Nat} (h : oo l m i k = false) (hno : ¬ ((sgx l i).1 ≤ (sgx m k).2.2.1 ∧ (sgx m k).1 ≤ (sgx l i).2.2.1 ∧ (sgx l i).2.1 ≤ (sgx m k).2.2.2 ∧ (sgx m k).2.1 ≤ (sgx l i).2.2.2)) : qq l m i k = false := by
  unfold sgx at hno
  simp only at hno
  unfold oo at h
  unfold qq
  by_cases hx : ((at' l i).1 < (at' m k).1 ∧ (at' l i).1 < (nxp m k).1 ∧ (nxp l i).1 < (at' m k).1 ∧ (nxp l i).1 < (nxp m k).1) ∨ ((at' m k).1 < (at' l i).1 ∧ (at' m k).1 < (nxp l i).1 ∧ (nxp m k).1 < (at' l i).1 ∧ (nxp m k).1 < (nxp l i).1)
  · exact meets_far_x h hx
  · exact meets_far_y h (by omega)
theorem ron_miss {l : List (Int × Int)} {p : Int × Int} {k : Nat} (hno : ¬ ((sgx l k).1 ≤ p.1 ∧ p.1 ≤ (sgx l k).2.2.1 ∧ (sgx l k).2.1 ≤ p.2 ∧ p.2 ≤ (sgx l k).2.2.2)) : ron l p k = false := by
  unfold sgx at hno
  simp only at hno
  unfold ron
  by_cases hy : (p.2 < (at' l k).2 ∧ p.2 < (nxp l k).2) ∨ ((at' l k).2 < p.2 ∧ (nxp l k).2 < p.2)
  · exact rcOn_out hy
  · exact rcOn_outx (by omega)
theorem sis_q {l m : List (Int × Int)} (hl : ∀ p ∈ l, Bn1 p) (hm : ∀ p ∈ m, Bn1 p) {i k : Nat} (h : oo l m i k = false) (u : World) :
    Calls Tryz.prog 37 #[sgv l i, sgv m k] u fun e w' => e = .returned (.bool (qq l m i k)) ∧ Below u.heap.size u w' := by
  have a1 := at_bn1 hl i
  have a2 := nx_bn1 hl i
  have a3 := at_bn1 hm k
  have a4 := nx_bn1 hm k
  unfold Bn1 at a1 a2 a3 a4
  refine (sis_c (fb_rep (at' l i).1 (by omega)) (fb_rep (at' l i).2 (by omega)) (fb_rep (nxp l i).1 (by omega)) (fb_rep (nxp l i).2 (by omega)) (fb_rep (at' m k).1 (by omega)) (fb_rep (at' m k).2 (by omega)) (fb_rep (nxp m k).1 (by omega)) (fb_rep (nxp m k).2 (by omega)) (by omega) (by omega) u).mono ?_
  rintro e w' ⟨ans, rfl, h1, hb⟩
  rw [h1 h]
  exact ⟨rfl, hb⟩
theorem sis_q2 {l m : List (Int × Int)} (hl : ∀ p ∈ l, Bn1 p) (hm : ∀ p ∈ m, Bn1 p) {i k : Nat} (h : oo l m i k = false) (u : World) :
    Calls Tryz.prog 37 #[sgv m k, sgv l i] u fun e w' => e = .returned (.bool (qq l m i k)) ∧ Below u.heap.size u w' := by
  have e1 : oo m l k i = false := by unfold oo; rw [ovl_sym]; exact h
  have e2 : qq m l k i = qq l m i k := by unfold qq; exact meets_sym
  rw [← e2]
  exact sis_q hm hl e1 u
theorem ray_q {l : List (Int × Int)} {p : Int × Int} (hl : ∀ q ∈ l, Bn1 q) (hp : Bn1 p) (k : Nat) (u : World) :
    Calls Tryz.prog 31 #[sgv l k, .agg #[fl (fb p.1), fl (fb p.2)]] u fun e w' => e = .returned (.agg #[.bool (rin l p k), .bool (ron l p k)]) ∧ Below u.heap.size u w' := by
  have a1 := at_bn1 hl k
  have a2 := nx_bn1 hl k
  unfold Bn1 at a1 a2 hp
  exact raycast_c (fb_rep _ (by omega)) (fb_rep _ (by omega)) (fb_rep _ (by omega)) (fb_rep _ (by omega)) (fb_rep _ (by omega)) (fb_rep _ (by omega)) (by omega) u
/-- SegmentAsk of two segments -/
theorem sask_q {l m : List (Int × Int)} (hl : ∀ p ∈ l, Bn1 p) (hm : ∀ p ∈ m, Bn1 p) {i k : Nat} (h : oo l m i k = false) : ∃ (r0 r1 r2 : Bool) (z0 z1 z2 z3 : Int), ∀ u : World,
    Calls Tryz.prog 17 #[.agg #[.int .i64 (at' l i).1, .int .i64 (at' l i).2], .agg #[.int .i64 (nxp l i).1, .int .i64 (nxp l i).2], .agg #[.int .i64 (at' m k).1, .int .i64 (at' m k).2], .agg #[.int .i64 (nxp m k).1, .int .i64 (nxp m k).2]] u
      fun e w' => e = .returned (.agg #[.bool r0, .bool r1, .bool r2, .bool (qq l m i k), .int .i64 z0, .int .i64 z1, .int .i64 z2, .int .i64 z3]) ∧ Below u.heap.size u w' := by
  have a1 := at_bn1 hl i
  have a2 := nx_bn1 hl i
  have a3 := at_bn1 hm k
  have a4 := nx_bn1 hm k
  unfold Bn1 at a1 a2 a3 a4
  refine ⟨rcOn (at' l i).1 (at' l i).2 (nxp l i).1 (nxp l i).2 (at' m k).1 (at' m k).2, decide (side (at' l i).1 (at' l i).2 (nxp l i).1 (nxp l i).2 (at' m k).1 (at' m k).2 = 0), rcOn (at' l i).1 (at' l i).2 (nxp l i).1 (nxp l i).2 (at' m k).1 (at' m k).2 && rcOn (at' l i).1 (at' l i).2 (nxp l i).1 (nxp l i).2 (nxp m k).1 (nxp m k).2, min (at' l i).1 (nxp l i).1, min (at' l i).2 (nxp l i).2, max (at' l i).1 (nxp l i).1, max (at' l i).2 (nxp l i).2, fun u => (sask_c _ _ _ _ _ _ _ _ (by omega) (by omega) u).mono ?_⟩
  rintro e w' ⟨ans, rfl, h1, hb⟩
  rw [h1 h]
  exact ⟨rfl, hb⟩
/-- SegmentAsk of a segment and a point -/
theorem sask_p {l : List (Int × Int)} {p : Int × Int} (hl : ∀ q ∈ l, Bn1 q) (hp : Bn1 p) (i : Nat) : ∃ (r1 r2 : Bool) (z0 z1 z2 z3 : Int), ∀ u : World,
    Calls Tryz.prog 17 #[.agg #[.int .i64 (at' l i).1, .int .i64 (at' l i).2], .agg #[.int .i64 (nxp l i).1, .int .i64 (nxp l i).2], .agg #[.int .i64 p.1, .int .i64 p.2], .agg #[.int .i64 p.1, .int .i64 p.2]] u
      fun e w' => ∃ x : Bool, e = .returned (.agg #[.bool (ron l p i), .bool r1, .bool r2, .bool x, .int .i64 z0, .int .i64 z1, .int .i64 z2, .int .i64 z3]) ∧ Below u.heap.size u w' := by
  have a1 := at_bn1 hl i
  have a2 := nx_bn1 hl i
  unfold Bn1 at a1 a2 hp
  refine ⟨decide (side (at' l i).1 (at' l i).2 (nxp l i).1 (nxp l i).2 p.1 p.2 = 0), rcOn (at' l i).1 (at' l i).2 (nxp l i).1 (nxp l i).2 p.1 p.2 && rcOn (at' l i).1 (at' l i).2 (nxp l i).1 (nxp l i).2 p.1 p.2, min (at' l i).1 (nxp l i).1, min (at' l i).2 (nxp l i).2, max (at' l i).1 (nxp l i).1, max (at' l i).2 (nxp l i).2, fun u => (sask_c _ _ _ _ _ _ _ _ (by omega) (by omega) u).mono ?_⟩
  rintro e w' ⟨ans, rfl, h1, hb⟩
  exact ⟨ans, rfl, hb⟩
theorem ovl_q {l m : List (Int × Int)} (hl : ∀ p ∈ l, Bn1 p) (hm : ∀ p ∈ m, Bn1 p) (i k : Nat) (u : World) :
    Calls Tryz.prog 16 #[.agg #[.int .i64 (at' l i).1, .int .i64 (at' l i).2], .agg #[.int .i64 (nxp l i).1, .int .i64 (nxp l i).2], .agg #[.int .i64 (at' m k).1, .int .i64 (at' m k).2], .agg #[.int .i64 (nxp m k).1, .int .i64 (nxp m k).2]] u
      fun e w' => e = .returned (.bool (oo l m i k)) ∧ Below u.heap.size u w' := by
  have a1 := at_bn1 hl i
  have a2 := nx_bn1 hl i
  have a3 := at_bn1 hm k
  have a4 := nx_bn1 hm k
  unfold Bn1 at a1 a2 a3 a4
  exact ovl_c _ _ _ _ _ _ _ _ (by omega) (by omega) u
theorem bn1_bnd {p : Int × Int} (h : Bn1 p) : Bnd p := by unfold Bn1 at h; unfold Bnd; omega
/-- the cells of a slice -/
theorem _root_.PF.SlP.all {w : World} {v : Value} {l : List (Int × Int)} (h : SlP w v l) (h0 : 0 < l.length) : ∃ b off c, v = .slice (some ⟨b, off, none⟩) l.length c ∧ b < w.heap.size ∧ ∀ j, j < l.length → w.cell? ⟨b, off + j * 2, none⟩ = some (.int .i64 (at' l j).1) ∧ w.cell? ⟨b, off + j * 2 + 1, none⟩ = some (.int .i64 (at' l j).2) := by
  obtain ⟨A, c, hv, hk⟩ := h
  obtain ⟨b, off, hA, h1, -⟩ := hk 0 (at' l 0) (at_get h0)
  subst hA
  refine ⟨b, off, c, hv, World.block_lt_of_cell? w _ h1, fun j hj => ?_⟩
  obtain ⟨b', off', hA2, h3, h4⟩ := hk j (at' l j) (at_get hj)
  cases hA2
  exact ⟨h3, h4⟩
end Go.Proofs.YtdlcckkphjpeoaaGreat
