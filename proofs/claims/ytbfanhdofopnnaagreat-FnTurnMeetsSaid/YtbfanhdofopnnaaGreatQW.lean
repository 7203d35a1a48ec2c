import Derived.Test.YtbfanhdofopnnaaGreatLk
import Derived.Test.YtbfanhdofopnnaaGreatHp
import Derived.Test.YtbfanhdofopnnaaGreatQP
import Derived.Test.YtbfanhdofopnnaaGreatQA
import Derived.Test.YtbfanhdofopnnaaGreatQN
import Derived.Test.YtbfanhdofopnnaaGreatPt
import Derived.Test.YtbfanhdofopnnaaGreatHw
set_option linter.unusedSimpArgs false
set_option linter.unusedVariables false
/-! What shapes say of one another does not change when all are turned: plain. -/
namespace PF
section
variable {K S DX DY : Int}
theorem kinds (hK : 0 ≤ K ∧ K ≤ 7) : K = 0 ∨ K = 1 ∨ K = 2 ∨ K = 3 ∨ K = 4 ∨ K = 5 ∨ K = 6 ∨ K = 7 := by omega
theorem tpt_inj2 (hK : 0 ≤ K ∧ K ≤ 7) (hS : 0 < S) (a b : Int × Int) (h : tpt K S DX DY a = tpt K S DX DY b) : a = b := by
  obtain ⟨ax, ay⟩ := a
  obtain ⟨bx, b_y⟩ := b
  have a1 := mulS_le (a := ax) (b := bx) hS
  have a2 := mulS_le (a := bx) (b := ax) hS
  have a3 := mulS_le (a := ay) (b := b_y) hS
  have a4 := mulS_le (a := b_y) (b := ay) hS
  rcases kinds hK with rfl | rfl | rfl | rfl | rfl | rfl | rfl | rfl <;> simp only [tpt0, tpt1, tpt2, tpt3, tpt4, tpt5, tpt6, tpt7, Prod.mk.injEq] at h ⊢ <;> omega
theorem tpt_eq (hK : 0 ≤ K ∧ K ≤ 7) (hS : 0 < S) (a b : Int × Int) : ((tpt K S DX DY a).1 = (tpt K S DX DY b).1 ∧ (tpt K S DX DY a).2 = (tpt K S DX DY b).2) ↔ (a.1 = b.1 ∧ a.2 = b.2) := by
  constructor
  · rintro ⟨h1, h2⟩
    rw [tpt_inj2 hK hS a b (Prod.ext h1 h2)]
    exact ⟨rfl, rfl⟩
  · rintro ⟨h1, h2⟩
    rw [Prod.ext h1 h2]
    exact ⟨rfl, rfl⟩
/-- two segments' boxes lie apart -/
def apt (a b c d : Int × Int) : Prop :=
  ((a.2 < c.2 ∧ a.2 < d.2 ∧ b.2 < c.2 ∧ b.2 < d.2) ∨ (c.2 < a.2 ∧ c.2 < b.2 ∧ d.2 < a.2 ∧ d.2 < b.2)) ∨ ((a.1 < c.1 ∧ a.1 < d.1 ∧ b.1 < c.1 ∧ b.1 < d.1) ∨ (c.1 < a.1 ∧ c.1 < b.1 ∧ d.1 < a.1 ∧ d.1 < b.1))
instance (a b c d : Int × Int) : Decidable (apt a b c d) := by unfold apt; infer_instance
set_option maxHeartbeats 4000000 in
theorem apt_tpt (hK : 0 ≤ K ∧ K ≤ 7) (hS : 0 < S) (a b c d : Int × Int) : apt (tpt K S DX DY a) (tpt K S DX DY b) (tpt K S DX DY c) (tpt K S DX DY d) ↔ apt a b c d := by
  obtain ⟨ax, ay⟩ := a
  obtain ⟨bx, b_y⟩ := b
  obtain ⟨cx, cy⟩ := c
  obtain ⟨dx, dy⟩ := d
  have L : ∀ p q : Int, p * S < q * S ↔ p < q := fun p q => by have := mulS_le (a := q) (b := p) hS; omega
  have N : ∀ p q e : Int, (-(p * S) + e < -(q * S) + e ↔ q < p) ∧ (p * S + e < q * S + e ↔ p < q) := fun p q e => by have h1 := L p q; have h2 := L q p; omega
  rcases kinds hK with rfl | rfl | rfl | rfl | rfl | rfl | rfl | rfl <;> simp only [tpt0, tpt1, tpt2, tpt3, tpt4, tpt5, tpt6, tpt7, apt, (N _ _ _).1, (N _ _ _).2] <;> omega
theorem sx_or (a b c d : Int × Int) : sx a.1 a.2 b.1 b.2 c.1 c.2 d.1 d.2 = (if apt a b c d then false else if (a.1 = c.1 ∧ a.2 = c.2) ∨ (a.1 = d.1 ∧ a.2 = d.2) ∨ (b.1 = c.1 ∧ b.2 = c.2) ∨ (b.1 = d.1 ∧ b.2 = d.2) then true
    else if side a.1 a.2 b.1 b.2 c.1 c.2 = 0 then rcOn a.1 a.2 b.1 b.2 c.1 c.2 || rcOn a.1 a.2 b.1 b.2 d.1 d.2 else meets a.1 a.2 b.1 b.2 c.1 c.2 d.1 d.2) := by
  unfold sx
  by_cases h1 : (a.2 < c.2 ∧ a.2 < d.2 ∧ b.2 < c.2 ∧ b.2 < d.2) ∨ (c.2 < a.2 ∧ c.2 < b.2 ∧ d.2 < a.2 ∧ d.2 < b.2)
  · rw [if_pos h1, if_pos (show apt a b c d from .inl h1)]
  · rw [if_neg h1]
    by_cases h2 : (a.1 < c.1 ∧ a.1 < d.1 ∧ b.1 < c.1 ∧ b.1 < d.1) ∨ (c.1 < a.1 ∧ c.1 < b.1 ∧ d.1 < a.1 ∧ d.1 < b.1)
    · rw [if_pos h2, if_pos (show apt a b c d from .inr h2)]
    · rw [if_neg h2, if_neg (show ¬ apt a b c d from fun h => h.elim h1 h2)]
theorem sx_tpt (hK : 0 ≤ K ∧ K ≤ 7) (hS : 0 < S) (a b c d : Int × Int) : sx (tpt K S DX DY a).1 (tpt K S DX DY a).2 (tpt K S DX DY b).1 (tpt K S DX DY b).2 (tpt K S DX DY c).1 (tpt K S DX DY c).2 (tpt K S DX DY d).1 (tpt K S DX DY d).2 = sx a.1 a.2 b.1 b.2 c.1 c.2 d.1 d.2 := by
  rw [sx_or, sx_or]
  simp only [apt_tpt hK hS, tpt_eq hK hS, rcOn_tpt K S DX DY hS, meets_tpt hK hS]
  have e : side (tpt K S DX DY a).1 (tpt K S DX DY a).2 (tpt K S DX DY b).1 (tpt K S DX DY b).2 (tpt K S DX DY c).1 (tpt K S DX DY c).2 = 0 ↔ side a.1 a.2 b.1 b.2 c.1 c.2 = 0 := by rw [side_tpt hK, c_zero (tsg_ne hS)]
  simp only [e]
/-- a box whose sides are in order -/
def Bxo (b : Int × Int × Int × Int) : Prop := b.1 ≤ b.2.2.1 ∧ b.2.1 ≤ b.2.2.2
set_option maxHeartbeats 4000000 in
theorem mbx_of (hK : 0 ≤ K ∧ K ≤ 7) (hS : 0 < S) (b : Int × Int × Int × Int) (h : Bxo b) : mbx K S DX DY b = (if K = 0 then (b.1 * S + DX, b.2.1 * S + DY, b.2.2.1 * S + DX, b.2.2.2 * S + DY) else if K = 1 then (-(b.2.2.2 * S) + DX, b.1 * S + DY, -(b.2.1 * S) + DX, b.2.2.1 * S + DY)
    else if K = 2 then (-(b.2.2.1 * S) + DX, -(b.2.2.2 * S) + DY, -(b.1 * S) + DX, -(b.2.1 * S) + DY) else if K = 3 then (b.2.1 * S + DX, -(b.2.2.1 * S) + DY, b.2.2.2 * S + DX, -(b.1 * S) + DY)
    else if K = 4 then (-(b.2.2.1 * S) + DX, b.2.1 * S + DY, -(b.1 * S) + DX, b.2.2.2 * S + DY) else if K = 5 then (-(b.2.2.2 * S) + DX, -(b.2.2.1 * S) + DY, -(b.2.1 * S) + DX, -(b.1 * S) + DY)
    else if K = 6 then (b.1 * S + DX, -(b.2.2.2 * S) + DY, b.2.2.1 * S + DX, -(b.2.1 * S) + DY) else (b.2.1 * S + DX, b.1 * S + DY, b.2.2.2 * S + DX, b.2.2.1 * S + DY)) := by
  obtain ⟨x0, y0, x1, y1⟩ := b
  obtain ⟨h1, h2⟩ := h
  simp only at h1 h2
  have a1 := mulS_le (a := x0) (b := x1) hS
  have a2 := mulS_le (a := y0) (b := y1) hS
  unfold mbx rx0 ry0 rx1 ry1
  rcases kinds hK with rfl | rfl | rfl | rfl | rfl | rfl | rfl | rfl <;> simp [tpt0, tpt1, tpt2, tpt3, tpt4, tpt5, tpt6, tpt7] <;> omega
section
variable {a b : Int × Int × Int × Int}
theorem bmB_mbx (hK : 0 ≤ K ∧ K ≤ 7) (hS : 0 < S) (ha : Bxo a) (hb : Bxo b) : bmB (mbx K S DX DY a) (mbx K S DX DY b) = bmB a b := by
  have L := fun p q : Int => mulS_le (a := p) (b := q) hS
  rw [mbx_of hK hS a ha, mbx_of hK hS b hb]
  unfold bmB
  apply decide_eq_decide.2
  have N : ∀ p q e : Int, (-(p * S) + e ≤ -(q * S) + e ↔ q ≤ p) ∧ (p * S + e ≤ q * S + e ↔ p ≤ q) := fun p q e => by have h1 := L p q; have h2 := L q p; omega
  rcases kinds hK with rfl | rfl | rfl | rfl | rfl | rfl | rfl | rfl <;> simp [(N _ _ _).1, (N _ _ _).2] <;> omega
theorem bcB_mbx (hK : 0 ≤ K ∧ K ≤ 7) (hS : 0 < S) (ha : Bxo a) (hb : Bxo b) : bcB (mbx K S DX DY a) (mbx K S DX DY b) = bcB a b := by
  have L := fun p q : Int => mulS_le (a := p) (b := q) hS
  rw [mbx_of hK hS a ha, mbx_of hK hS b hb]
  unfold bcB
  apply decide_eq_decide.2
  have N : ∀ p q e : Int, (-(p * S) + e ≤ -(q * S) + e ↔ q ≤ p) ∧ (p * S + e ≤ q * S + e ↔ p ≤ q) := fun p q e => by have h1 := L p q; have h2 := L q p; omega
  rcases kinds hK with rfl | rfl | rfl | rfl | rfl | rfl | rfl | rfl <;> simp [(N _ _ _).1, (N _ _ _).2] <;> omega
theorem inB_mbx (hK : 0 ≤ K ∧ K ≤ 7) (hS : 0 < S) (ha : Bxo a) (p : Int × Int) : inB (mbx K S DX DY a) (tpt K S DX DY p) = inB a p := by
  have L := fun p q : Int => mulS_le (a := p) (b := q) hS
  rw [mbx_of hK hS a ha]
  obtain ⟨x, y⟩ := p
  unfold inB
  apply decide_eq_decide.2
  have N : ∀ p q e : Int, (-(p * S) + e ≤ -(q * S) + e ↔ q ≤ p) ∧ (p * S + e ≤ q * S + e ↔ p ≤ q) := fun p q e => by have h1 := L p q; have h2 := L q p; omega
  rcases kinds hK with rfl | rfl | rfl | rfl | rfl | rfl | rfl | rfl <;> simp [tpt0, tpt1, tpt2, tpt3, tpt4, tpt5, tpt6, tpt7, (N _ _ _).1, (N _ _ _).2] <;> omega
end
end
end PF
set_option linter.unusedSimpArgs false
set_option linter.unusedVariables false
/-! What rings, lines and polygons say of one another does not change when all are turned: plain. -/
namespace Go.Proofs.YtbfanhdofopnnaaGreat
open Go.RowKit PF JR
section
variable {K S DX DY : Int} {l m : List (Int × Int)}
section
variable {a b : Int × Int × Int × Int}
theorem arB_mbx (hK : 0 ≤ K ∧ K ≤ 7) (hS : 0 < S) (ha : Bxo a) : arB (mbx K S DX DY a) = arB a * (S * S) := by
  rw [mbx_of hK hS a ha]
  unfold arB
  rcases kinds hK with rfl | rfl | rfl | rfl | rfl | rfl | rfl | rfl <;> simp <;> grind
theorem arB_lt (hK : 0 ≤ K ∧ K ≤ 7) (hS : 0 < S) (ha : Bxo a) (hb : Bxo b) : arB (mbx K S DX DY a) < arB (mbx K S DX DY b) ↔ arB a < arB b := by
  rw [arB_mbx hK hS ha, arB_mbx hK hS hb]
  have := mulS_le (a := arB b) (b := arB a) (Int.mul_pos hS hS)
  omega
end
theorem box_o (h : 0 < l.length) : Bxo (box l) := by
  obtain ⟨a, -⟩ := box_spec l h
  have := a (at' l 0) (List.mem_of_getElem? (at_get h))
  exact ⟨by omega, by omega⟩
theorem ppB_o {cl : Bool} (h : 0 < l.length) : Bxo (ppB cl l) := by
  unfold ppB
  split
  · exact ⟨Int.le_refl _, Int.le_refl _⟩
  · exact box_o h
theorem ppB_map (hK : 0 ≤ K ∧ K ≤ 7) (hS : 0 < S) {cl : Bool} (h : 0 < l.length) (h3 : cl = true → 3 ≤ l.length) : ppB cl (l.map (tpt K S DX DY)) = mbx K S DX DY (ppB cl l) := by
  have e : ∀ x : List (Int × Int), x.length = l.length → tooS cl x = false := by
    intro x hx
    unfold tooS
    cases cl with
    | false => rfl
    | true => have := h3 rfl; simp; omega
  unfold ppB
  rw [e _ (List.length_map _), e l rfl]
  simp only [Bool.false_eq_true, if_false]
  exact box_turn hK hS l h
theorem sgx_o (m : List (Int × Int)) (i : Nat) : Bxo (sgx m i) := by
  unfold Bxo sgx
  simp only
  omega
theorem sgx_map (hK : 0 ≤ K ∧ K ≤ 7) (hS : 0 < S) {i : Nat} (hi : i < l.length) : sgx (l.map (tpt K S DX DY)) i = mbx K S DX DY (sgx l i) := by
  obtain ⟨e1, e2, e3, e4⟩ := box_tpt (DX := DX) (DY := DY) (Ax := (at' l i).1) (Ay := (at' l i).2) (Bx := (nxp l i).1) (By := (nxp l i).2) hK hS
  unfold sgx mbx
  rw [at_map _ hi, nxp_map _ hi]
  simp only
  rw [e1, e2, e3, e4]
theorem ppV_map (hK : 0 ≤ K ∧ K ≤ 7) (hS : 0 < S) (h3 : 3 ≤ l.length) : ppV true (l.map (tpt K S DX DY)) = ppV true l := by
  unfold ppV tooS
  rw [List.length_map, turn_conv hK (by omega) l (by omega)]
theorem ron_map (hS : 0 < S) {p : Int × Int} {k : Nat} (hk : k < l.length) : ron (l.map (tpt K S DX DY)) (tpt K S DX DY p) k = ron l p k := by
  unfold ron
  rw [at_map _ hk, nxp_map _ hk]
  exact rcOn_tpt K S DX DY hS _ _ _
theorem sxs_map (hK : 0 ≤ K ∧ K ≤ 7) (hS : 0 < S) {i k : Nat} (hi : i < m.length) (hk : k < l.length) : sxs (m.map (tpt K S DX DY)) i (l.map (tpt K S DX DY)) k = sxs m i l k := by
  unfold sxs
  rw [at_map _ hi, nxp_map _ hi, at_map _ hk, nxp_map _ hk]
  exact sx_tpt hK hS _ _ _ _
theorem nSeg_mapT (hK : 0 ≤ K ∧ K ≤ 7) (hS : 0 < S) (cl : Bool) (l : List (Int × Int)) : nSeg cl (l.map (tpt K S DX DY)) = nSeg cl l := by
  unfold nSeg
  simp only [List.length_map, List.getElem?_map]
  have e : (Option.map (tpt K S DX DY) l[l.length - 1]? = Option.map (tpt K S DX DY) l[0]?) ↔ l[l.length - 1]? = l[0]? := by
    constructor
    · intro h
      cases h1 : l[l.length - 1]? with
      | none => cases h2 : l[0]? with
        | none => rfl
        | some b => rw [h1, h2] at h; cases h
      | some a => cases h2 : l[0]? with
        | none => rw [h1, h2] at h; cases h
        | some b => rw [h1, h2] at h; rw [tpt_inj2 hK hS a b (by simpa using h)]
    · intro h; rw [h]
  simp only [e]
theorem _root_.PF.cntN_congr {f g : Nat → Bool} : ∀ {n : Nat}, (∀ k, k < n → f k = g k) → cntN f n = cntN g n := by
  intro n
  induction n with
  | zero => intro _; rfl
  | succ n ih => intro h; rw [cntN, cntN, ih (fun k hk => h k (by omega)), h n (by omega)]
theorem _root_.PF.allN_congr {f g : Nat → Bool} {n : Nat} (h : ∀ k, k < n → f k = g k) : allN f n = allN g n := by
  unfold allN
  rw [anyN_congr fun k hk => by rw [h k hk]]
theorem risV_map (hK : 0 ≤ K ∧ K ≤ 7) (hS : 0 < S) (h3 : 3 ≤ l.length) {i : Nat} (hi : i < m.length) : risV (l.map (tpt K S DX DY)) (m.map (tpt K S DX DY)) i = risV l m i := by
  unfold risV
  rw [sgx_map hK hS hi, ppB_map hK hS (by omega) (fun _ => h3), bmB_mbx hK hS (sgx_o m i) (ppB_o (by omega)), at_map _ hi, nxp_map _ hi, ringHas_map (good_tpt K S DX DY hS) true h3, ringHas_map (good_tpt K S DX DY hS) true h3,
    nSeg_mapT hK hS, cntN_congr fun k hk => sxs_map hK hS hi (Nat.lt_of_lt_of_le hk (nSeg_le _ _))]
theorem rirV_map (hK : 0 ≤ K ∧ K ≤ 7) (hS : 0 < S) (h3 : 3 ≤ l.length) (h3m : 3 ≤ m.length) : rirV (l.map (tpt K S DX DY)) (m.map (tpt K S DX DY)) = rirV l m := by
  unfold rirV
  rw [ppB_map hK hS (by omega) (fun _ => h3), ppB_map hK hS (by omega) (fun _ => h3m), bmB_mbx hK hS (ppB_o (by omega)) (ppB_o (by omega))]
  simp only [arB_lt hK hS (ppB_o (l := l) (by omega)) (ppB_o (l := m) (by omega))]
  rw [nSeg_mapT hK hS, nSeg_mapT hK hS, anyN_congr fun i hi => risV_map hK hS h3m (Nat.lt_of_lt_of_le hi (nSeg_le _ _)), anyN_congr fun i hi => risV_map hK hS h3 (Nat.lt_of_lt_of_le hi (nSeg_le _ _))]
theorem rilV_map (hK : 0 ≤ K ∧ K ≤ 7) (hS : 0 < S) (h3 : 3 ≤ l.length) (h2 : 0 < m.length) : rilV (l.map (tpt K S DX DY)) (m.map (tpt K S DX DY)) = rilV l m := by
  unfold rilV
  rw [ppB_map hK hS (by omega) (fun _ => h3), ppB_map (cl := false) (l := m) hK hS h2 (fun h => by cases h), bmB_mbx hK hS (ppB_o (by omega)) (ppB_o (by omega)), List.length_map,
    anyN_congr (n := m.length) (g := fun k => ringHas l (at' m k) true) fun i hi => by rw [at_map _ hi, ringHas_map (good_tpt K S DX DY hS) true h3], anyN_congr fun i hi => risV_map hK hS h3 (show i < m.length by omega)]
theorem rcsV_map (hK : 0 ≤ K ∧ K ≤ 7) (hS : 0 < S) (h3 : 3 ≤ l.length) {i : Nat} (hi : i < m.length) : rcsV (l.map (tpt K S DX DY)) (m.map (tpt K S DX DY)) i = rcsV l m i := by
  unfold rcsV
  rw [ppB_map hK hS (by omega) (fun _ => h3), at_map _ hi, nxp_map _ hi, inB_mbx hK hS (ppB_o (by omega)), inB_mbx hK hS (ppB_o (by omega)), ringHas_map (good_tpt K S DX DY hS) false h3, ringHas_map (good_tpt K S DX DY hS) false h3,
    ppV_map hK hS h3, nSeg_mapT hK hS, anyN_congr fun k hk => sxs_map hK hS hi (Nat.lt_of_lt_of_le hk (nSeg_le _ _))]
  simp only [tpt_eq hK hS]
theorem rcrV_map (hK : 0 ≤ K ∧ K ≤ 7) (hS : 0 < S) (cl : Bool) (h3 : 3 ≤ l.length) (hm : 0 < m.length) (h3m : cl = true → 3 ≤ m.length) : rcrV (l.map (tpt K S DX DY)) cl (m.map (tpt K S DX DY)) = rcrV l cl m := by
  unfold rcrV
  rw [ppB_map hK hS (by omega) (fun _ => h3), ppB_map hK hS hm h3m, bcB_mbx hK hS (ppB_o (by omega)) (ppB_o hm), ppV_map hK hS h3, List.length_map, nSeg_mapT hK hS,
    allN_congr (n := m.length) (g := fun k => ringHas l (at' m k) false) fun i hi => by rw [at_map _ hi, ringHas_map (good_tpt K S DX DY hS) false h3], allN_congr fun i hi => rcsV_map hK hS h3 (Nat.lt_of_lt_of_le hi (nSeg_le _ _))]
theorem getD_map {f : List (Int × Int) → List (Int × Int)} {H : List (List (Int × Int))} {k : Nat} (hk : k < H.length) : (H.map f).getD k [] = f (H.getD k []) := by
  simp [List.getD_eq_getElem?_getD, List.getElem?_eq_getElem hk]
theorem getD_mem {H : List (List (Int × Int))} {k : Nat} (hk : k < H.length) : H.getD k [] ∈ H := by
  rw [List.getD_eq_getElem?_getD, List.getElem?_eq_getElem hk]
  exact List.getElem_mem hk
variable {H G : List (List (Int × Int))}
theorem hol_map (hK : 0 ≤ K ∧ K ≤ 7) (hS : 0 < S) (cl : Bool) (hH : ∀ x ∈ H, 3 ≤ x.length) (hm : 0 < m.length) (h3m : cl = true → 3 ≤ m.length) :
    anyN (fun k => rcrV ((H.map fun x => x.map (tpt K S DX DY)).getD k []) cl (m.map (tpt K S DX DY))) H.length = anyN (fun k => rcrV (H.getD k []) cl m) H.length :=
  anyN_congr fun k hk => by rw [getD_map hk, rcrV_map hK hS cl (hH _ (getD_mem hk)) hm h3m]
theorem polV_map (hK : 0 ≤ K ∧ K ≤ 7) (hS : 0 < S) (h3 : 3 ≤ l.length) (h3m : 3 ≤ m.length) (hH : ∀ x ∈ H, 3 ≤ x.length) (hG : ∀ x ∈ G, 3 ≤ x.length) :
    polV (l.map (tpt K S DX DY)) (H.map fun x => x.map (tpt K S DX DY)) (m.map (tpt K S DX DY)) (G.map fun x => x.map (tpt K S DX DY)) = polV l H m G := by
  unfold polV
  rw [rirV_map hK hS h3m h3, List.length_map, List.length_map, hol_map hK hS true hH (by omega) (fun _ => h3m), hol_map hK hS true hG (by omega) (fun _ => h3)]
theorem polLV_map (hK : 0 ≤ K ∧ K ≤ 7) (hS : 0 < S) (h3 : 3 ≤ l.length) (h2 : 0 < m.length) (hH : ∀ x ∈ H, 3 ≤ x.length) :
    polLV (l.map (tpt K S DX DY)) (H.map fun x => x.map (tpt K S DX DY)) (m.map (tpt K S DX DY)) = polLV l H m := by
  unfold polLV
  rw [rilV_map hK hS h3 h2, List.length_map, hol_map hK hS false hH h2 (fun h => by cases h)]
theorem linV_map (hK : 0 ≤ K ∧ K ≤ 7) (hS : 0 < S) : linV (l.map (tpt K S DX DY)) (m.map (tpt K S DX DY)) = linV l m := by
  unfold linV
  simp only [List.length_map]
  rw [anyN_congr fun k hk => anyN_congr fun i hi => sxs_map hK hS (show k < m.length by omega) (show i < l.length by omega), anyN_congr fun i hi => anyN_congr fun k hk => sxs_map hK hS (show i < l.length by omega) (show k < m.length by omega)]
theorem ptL_map (hS : 0 < S) {p : Int × Int} : anyN (ron (l.map (tpt K S DX DY)) (tpt K S DX DY p)) ((l.map (tpt K S DX DY)).length - 1) = anyN (ron l p) (l.length - 1) := by
  rw [List.length_map]
  exact anyN_congr fun k hk => ron_map hS (by omega)
end
end Go.Proofs.YtbfanhdofopnnaaGreat
set_option linter.unusedSimpArgs false
set_option linter.unusedVariables false
/-! Rings that are alike: they begin at another point, or go the other way round. -/
namespace PF
section
variable {Ax Ay Bx By Cx Cy Dx Dy : Int}
theorem meets_swap2 : meets Ax Ay Bx By Dx Dy Cx Cy = meets Ax Ay Bx By Cx Cy Dx Dy := by
  unfold meets
  apply decide_eq_decide.2
  rw [side_swap (Cx := Ax) (Cy := Ay) (Ax := Cx) (Ay := Cy), side_swap (Cx := Bx) (Cy := By) (Ax := Cx) (Ay := Cy), apart_neg, apart_comm (m := side Ax Ay Bx By Dx Dy)]
theorem on_side (h : side Ax Ay Bx By Cx Cy ≠ 0) : rcOn Ax Ay Bx By Cx Cy = false := by
  apply rcOn_ne
  intro e
  apply h
  have := id_n (Ax := Ax) (Ay := Ay) (Bx := Bx) (By := By) (Cx := Cx) (Cy := Cy)
  omega
theorem on_box (h : rcOn Ax Ay Bx By Cx Cy = true) : ((Ax ≤ Cx ∧ Cx ≤ Bx) ∨ (Bx ≤ Cx ∧ Cx ≤ Ax)) ∧ ((Ay ≤ Cy ∧ Cy ≤ By) ∨ (By ≤ Cy ∧ Cy ≤ Ay)) := by
  unfold rcOn at h
  exact (of_decide_eq_true h).2
theorem on_end (h : (Ax = Cx ∧ Ay = Cy) ∨ (Bx = Cx ∧ By = Cy)) : rcOn Ax Ay Bx By Cx Cy = true := by
  unfold rcOn
  rw [decide_eq_true_iff]
  rcases h with ⟨rfl, rfl⟩ | ⟨rfl, rfl⟩
  · refine ⟨by simp, by omega, by omega⟩
  · refine ⟨by rw [Int.mul_comm], by omega, by omega⟩
end
section
variable (a b c d : Int × Int)
/-- whether segments ab and cd meet -/
def sxp : Bool := sx a.1 a.2 b.1 b.2 c.1 c.2 d.1 d.2
theorem sxp_swap1 : sxp b a c d = sxp a b c d := by
  unfold sxp
  rw [sx_or, sx_or]
  have e1 : apt b a c d ↔ apt a b c d := by unfold apt; omega
  have e2 : ((b.1 = c.1 ∧ b.2 = c.2) ∨ (b.1 = d.1 ∧ b.2 = d.2) ∨ (a.1 = c.1 ∧ a.2 = c.2) ∨ (a.1 = d.1 ∧ a.2 = d.2)) ↔ ((a.1 = c.1 ∧ a.2 = c.2) ∨ (a.1 = d.1 ∧ a.2 = d.2) ∨ (b.1 = c.1 ∧ b.2 = c.2) ∨ (b.1 = d.1 ∧ b.2 = d.2)) := by
    constructor
    · rintro (h | h | h | h)
      · exact .inr (.inr (.inl h))
      · exact .inr (.inr (.inr h))
      · exact .inl h
      · exact .inr (.inl h)
    · rintro (h | h | h | h)
      · exact .inr (.inr (.inl h))
      · exact .inr (.inr (.inr h))
      · exact .inl h
      · exact .inr (.inl h)
  have e3 : (side b.1 b.2 a.1 a.2 c.1 c.2 = 0) ↔ (side a.1 a.2 b.1 b.2 c.1 c.2 = 0) := by rw [side_swap]; omega
  simp only [e1, e2, e3, rcOn_swap (Bx := b.1) (By := b.2) (Ax := a.1) (Ay := a.2), meets_swap (Bx := b.1) (By := b.2) (Ax := a.1) (Ay := a.2)]
theorem sxp_swap2 : sxp a b d c = sxp a b c d := by
  unfold sxp
  rw [sx_or, sx_or]
  have e1 : apt a b d c ↔ apt a b c d := by unfold apt; omega
  have e2 : ((a.1 = d.1 ∧ a.2 = d.2) ∨ (a.1 = c.1 ∧ a.2 = c.2) ∨ (b.1 = d.1 ∧ b.2 = d.2) ∨ (b.1 = c.1 ∧ b.2 = c.2)) ↔ ((a.1 = c.1 ∧ a.2 = c.2) ∨ (a.1 = d.1 ∧ a.2 = d.2) ∨ (b.1 = c.1 ∧ b.2 = c.2) ∨ (b.1 = d.1 ∧ b.2 = d.2)) := by
    constructor
    · rintro (h | h | h | h)
      · exact .inr (.inl h)
      · exact .inl h
      · exact .inr (.inr (.inr h))
      · exact .inr (.inr (.inl h))
    · rintro (h | h | h | h)
      · exact .inr (.inl h)
      · exact .inl h
      · exact .inr (.inr (.inr h))
      · exact .inr (.inr (.inl h))
  simp only [e1, e2]
  split
  · rfl
  split
  · rfl
  by_cases h1 : side a.1 a.2 b.1 b.2 c.1 c.2 = 0
  · by_cases h2 : side a.1 a.2 b.1 b.2 d.1 d.2 = 0
    · rw [if_pos h1, if_pos h2, Bool.or_comm]
    · rw [if_pos h1, if_neg h2, meets_swap2, on_iff h1 h2, on_side h2, Bool.or_false]
  · by_cases h2 : side a.1 a.2 b.1 b.2 d.1 d.2 = 0
    · rw [if_neg h1, if_pos h2, ← meets_swap2, on_iff h2 h1, on_side h1, Bool.or_false]
    · rw [if_neg h1, if_neg h2, meets_swap2]
variable {a b c d}
theorem sxp_pt (h : sxp a b c c = true) : rcOn a.1 a.2 b.1 b.2 c.1 c.2 = true := by
  unfold sxp at h
  rw [sx_or] at h
  split at h
  · cases h
  split at h
  · rename_i h1
    rcases h1 with h1 | h1 | h1 | h1
    · exact on_end (.inl h1)
    · exact on_end (.inl h1)
    · exact on_end (.inr h1)
    · exact on_end (.inr h1)
  split at h
  · simpa using h
  · rename_i h1
    unfold meets at h
    have := (of_decide_eq_true h).1
    unfold apartB at this
    omega
theorem sxp_on (h : rcOn a.1 a.2 b.1 b.2 d.1 d.2 = true) (c : Int × Int) : sxp a b c d = true := by
  unfold sxp
  rw [sx_or, if_neg (by have := on_box h; unfold apt; omega)]
  split
  · rfl
  have h0 : side a.1 a.2 b.1 b.2 d.1 d.2 = 0 := by
    by_cases e : side a.1 a.2 b.1 b.2 d.1 d.2 = 0
    · exact e
    · rw [on_side e] at h; cases h
  split
  · rw [h, Bool.or_true]
  · rename_i h1
    rw [← meets_swap2, on_iff h0 h1, h]
end
end PF
namespace Go.Proofs.YtbfanhdofopnnaaGreat
open Go.RowKit PF JR
/-- two rings that are alike -/
structure Like (l m : List (Int × Int)) : Prop where
  box : ppB true l = ppB true m
  has : ∀ p al, ringHas l p al = ringHas m p al
  any : ∀ F : Int × Int → Int × Int → Bool, (∀ a b, F a b = F b a) → (∀ p q, F p p = true → F q p = true) → anyN (fun k => F (at' l k) (nxp l k)) (nSeg true l) = anyN (fun k => F (at' m k) (nxp m k)) (nSeg true m)
  two : ∀ F : Int × Int → Int × Int → Bool, (∀ a b, F a b = F b a) → (∀ p q, F p p = true → F q p = true) → decide (2 ≤ cntN (fun k => F (at' l k) (nxp l k)) (nSeg true l)) = decide (2 ≤ cntN (fun k => F (at' m k) (nxp m k)) (nSeg true m))
  pts : ∀ F : Int × Int → Bool, anyN (fun k => F (at' l k)) l.length = anyN (fun k => F (at' m k)) m.length
theorem Like.refl (l : List (Int × Int)) : Like l l := ⟨rfl, fun _ _ => rfl, fun _ _ _ => rfl, fun _ _ _ => rfl, fun _ => rfl⟩
theorem Like.symm {l m : List (Int × Int)} (h : Like l m) : Like m l := ⟨h.box.symm, fun p al => (h.has p al).symm, fun F a b => (h.any F a b).symm, fun F a b => (h.two F a b).symm, fun F => (h.pts F).symm⟩
theorem Like.trans {l m n : List (Int × Int)} (h : Like l m) (g : Like m n) : Like l n := ⟨h.box.trans g.box, fun p al => (h.has p al).trans (g.has p al), fun F a b => (h.any F a b).trans (g.any F a b), fun F a b => (h.two F a b).trans (g.two F a b), fun F => (h.pts F).trans (g.pts F)⟩
/-- the ring l and the segment ab -/
def risP (l : List (Int × Int)) (a b : Int × Int) : Bool := bmB (min a.1 b.1, min a.2 b.2, max a.1 b.1, max a.2 b.2) (ppB true l) && (ringHas l a true || ringHas l b true || decide (2 ≤ cntN (fun k => sxp a b (at' l k) (nxp l k)) (nSeg true l)))
/-- the ring l holds the segment ab, off its edge -/
def rcsP (l : List (Int × Int)) (a b : Int × Int) : Bool := inB (ppB true l) a && (inB (ppB true l) b && (ringHas l a false && (decide (b.1 = a.1 ∧ b.2 = a.2) || (ringHas l b false && (ppV true l || !anyN (fun k => sxp a b (at' l k) (nxp l k)) (nSeg true l))))))
section
variable {l l' m m' : List (Int × Int)} {a b p q : Int × Int}
theorem risP_like (h : Like l l') (a b : Int × Int) : risP l a b = risP l' a b := by
  unfold risP
  rw [h.box, h.has, h.has, h.two (sxp a b) (fun c d => (sxp_swap2 a b c d).symm) (fun p q e => sxp_on (sxp_pt e) q)]
theorem rcsP_like (h : Like l l') (hc : ppV true l = ppV true l') (a b : Int × Int) : rcsP l a b = rcsP l' a b := by
  unfold rcsP
  rw [h.box, h.has, h.has, hc, h.any (sxp a b) (fun c d => (sxp_swap2 a b c d).symm) (fun p q e => sxp_on (sxp_pt e) q)]
theorem risP_swap (l : List (Int × Int)) (a b : Int × Int) : risP l a b = risP l b a := by
  unfold risP
  rw [Int.min_comm a.1, Int.min_comm a.2, Int.max_comm a.1, Int.max_comm a.2, Bool.or_comm (ringHas l a true), cntN_congr fun k _ => sxp_swap1 b a (at' l k) (nxp l k)]
theorem rcsP_swap (l : List (Int × Int)) (a b : Int × Int) : rcsP l a b = rcsP l b a := by
  by_cases e : b = a
  · rw [e]
  have e1 : decide (b.1 = a.1 ∧ b.2 = a.2) = false := decide_eq_false fun h => e (Prod.ext h.1 h.2)
  have e2 : decide (a.1 = b.1 ∧ a.2 = b.2) = false := decide_eq_false fun h => e (Prod.ext h.1 h.2).symm
  unfold rcsP
  rw [e1, e2, anyN_congr fun k _ => sxp_swap1 b a (at' l k) (nxp l k)]
  generalize inB (ppB true l) a = x1
  generalize inB (ppB true l) b = x2
  generalize ringHas l a false = x3
  generalize ringHas l b false = x4
  cases x1 <;> cases x2 <;> cases x3 <;> cases x4 <;> rfl
theorem aon_any (l : List (Int × Int)) (p : Int × Int) : ∀ n, aon l p n = anyN (ron l p) n := by
  intro n
  induction n with
  | zero => rfl
  | succ n ih => rw [aon, anyN, ih]
theorem cntN_pos {f : Nat → Bool} : ∀ {n : Nat}, 0 < cntN f n → ∃ k, k < n ∧ f k = true := by
  intro n
  induction n with
  | zero => intro h; cases h
  | succ n ih =>
    intro h
    rw [cntN] at h
    cases e : f n with
    | true => exact ⟨n, by omega, e⟩
    | false =>
      rw [e] at h
      obtain ⟨k, hk, g⟩ := ih (by simpa using h)
      exact ⟨k, by omega, g⟩
theorem sxp_deg (h : sxp p p a b = true) : rcOn a.1 a.2 b.1 b.2 p.1 p.2 = true := by
  unfold sxp at h
  rw [sx_or] at h
  split at h
  · cases h
  split at h
  · rename_i h1
    rcases h1 with h1 | h1 | h1 | h1
    · exact on_end (.inl ⟨h1.1.symm, h1.2.symm⟩)
    · exact on_end (.inr ⟨h1.1.symm, h1.2.symm⟩)
    · exact on_end (.inl ⟨h1.1.symm, h1.2.symm⟩)
    · exact on_end (.inr ⟨h1.1.symm, h1.2.symm⟩)
  rw [if_pos (by unfold side; simp)] at h
  rw [Bool.or_eq_true] at h
  rcases h with h | h
  · have := on_box h
    exact on_end (.inl ⟨by omega, by omega⟩)
  · have := on_box h
    exact on_end (.inr ⟨by omega, by omega⟩)
theorem risP_deg (h3 : 3 ≤ l.length) (h : risP l p p = true) (q : Int × Int) : risP l q p = true := by
  unfold risP at h ⊢
  rw [Bool.and_eq_true] at h ⊢
  obtain ⟨h1, h2⟩ := h
  refine ⟨?_, ?_⟩
  · unfold bmB at h1 ⊢
    have h1 := of_decide_eq_true h1
    rw [decide_eq_true_iff]
    simp only at h1 ⊢
    omega
  · have hp : ringHas l p true = true := by
      rw [Bool.or_self, Bool.or_eq_true] at h2
      rcases h2 with h2 | h2
      · exact h2
      · obtain ⟨k, hk, e⟩ := cntN_pos (Nat.lt_of_lt_of_le (by decide : 0 < 2) (of_decide_eq_true h2))
        have := anyN_hit (f := ron l p) (Nat.lt_of_lt_of_le hk (nSeg_le _ _)) (sxp_deg e)
        rw [ringHas_al true h3, aon_any, this]
        rfl
    rw [hp, Bool.or_true, Bool.true_or]
theorem rcsP_deg (h : (!rcsP l p p) = true) (q : Int × Int) : (!rcsP l q p) = true := by
  cases e : rcsP l q p with
  | false => rfl
  | true =>
    exfalso
    have : rcsP l p p = true := by
      unfold rcsP at e ⊢
      simp only [Bool.and_eq_true, Bool.or_eq_true] at e ⊢
      obtain ⟨e1, e2, e3, e4⟩ := e
      refine ⟨e2, e2, ?_, .inl (by simp)⟩
      rcases e4 with e4 | e4
      · have e4 := of_decide_eq_true e4
        rw [Prod.ext e4.1 e4.2]
        exact e3
      · exact e4.1
    rw [this] at h
    cases h
theorem rirV_like (h : Like l l') (g : Like m m') (h3 : 3 ≤ l.length) (g3 : 3 ≤ m.length) : rirV l m = rirV l' m' := by
  unfold rirV
  rw [h.box, g.box]
  have e1 : anyN (risV m l) (nSeg true l) = anyN (risV m' l') (nSeg true l') := (h.any (risP m) (risP_swap m) (fun p q e => risP_deg g3 e q)).trans (anyN_congr fun k _ => risP_like g _ _)
  have e2 : anyN (risV l m) (nSeg true m) = anyN (risV l' m') (nSeg true m') := (g.any (risP l) (risP_swap l) (fun p q e => risP_deg h3 e q)).trans (anyN_congr fun k _ => risP_like h _ _)
  rw [e1, e2]
theorem rilV_like (h : Like l l') : rilV l m = rilV l' m := by
  unfold rilV
  rw [h.box, anyN_congr fun k _ => h.has (at' m k) true, anyN_congr (f := risV l m) fun k _ => risP_like h _ _]
  rfl
theorem rcrV_like2 (g : Like m m') : rcrV l true m = rcrV l true m' := by
  unfold rcrV allN
  rw [g.box]
  have e1 := g.pts fun p => !ringHas l p false
  have e2 : anyN (fun k => !rcsV l m k) (nSeg true m) = anyN (fun k => !rcsV l m' k) (nSeg true m') := g.any (fun a b => !rcsP l a b) (fun a b => by rw [rcsP_swap]) (fun p q e => rcsP_deg e q)
  simp only [e1, e2]
theorem rcrV_like1 (h : Like l l') (hc : ppV true l = ppV true l') (cl : Bool) : rcrV l cl m = rcrV l' cl m := by
  unfold rcrV
  rw [h.box, hc, allN_congr fun k _ => h.has (at' m k) false, allN_congr (f := rcsV l m) fun k _ => rcsP_like h hc _ _]
  rfl
variable {H G : List (List (Int × Int))}
theorem polV_like (h : Like l l') (g : Like m m') (h3 : 3 ≤ l.length) (g3 : 3 ≤ m.length) : polV l H m G = polV l' H m' G := by
  unfold polV
  rw [rirV_like g h g3 h3, anyN_congr fun k _ => rcrV_like2 g, anyN_congr (f := fun k => rcrV (G.getD k []) true l) fun k _ => rcrV_like2 h]
theorem polLV_like (h : Like l l') : polLV l H m = polLV l' H m := by
  unfold polLV
  rw [rilV_like h]
theorem polHas_like (h : Like l l') (p : Int × Int) : polHas l H p = polHas l' H p := by
  unfold polHas
  rw [h.has]
end
end Go.Proofs.YtbfanhdofopnnaaGreat
set_option linter.unusedSimpArgs false
set_option linter.unusedVariables false
/-! FnTurnMeets: the plain law. -/
namespace Go.Proofs.YtbfanhdofopnnaaGreat
open Go.RowKit PF JR
/-- four corners, closed -/
def qd (p0 p1 p2 p3 : Int × Int) : List (Int × Int) := [p0, p1, p2, p3, p0]
theorem qd_box {p0 p1 p2 p3 q0 q1 q2 q3 : Int × Int} (h : ∀ p, p ∈ qd q0 q1 q2 q3 ↔ p ∈ qd p0 p1 p2 p3) : ppB true (qd p0 p1 p2 p3) = ppB true (qd q0 q1 q2 q3) :=
  (box_mem (l := qd p0 p1 p2 p3) (m := qd q0 q1 q2 q3) (Nat.succ_pos _) (Nat.succ_pos _) h).symm
theorem qd_seg (p0 p1 p2 p3 : Int × Int) : nSeg true (qd p0 p1 p2 p3) = 4 := by simp [nSeg, qd]
theorem qd_has (p0 p1 p2 p3 p : Int × Int) (al : Bool) : ringHas (qd p0 p1 p2 p3) p al = (inB (ppB true (qd p0 p1 p2 p3)) p &&
    ((((((false || rcOn p0.1 p0.2 p1.1 p1.2 p.1 p.2) || rcOn p1.1 p1.2 p2.1 p2.2 p.1 p.2) || rcOn p2.1 p2.2 p3.1 p3.2 p.1 p.2) || rcOn p3.1 p3.2 p0.1 p0.2 p.1 p.2) && al) ||
      (!((((false || rcOn p0.1 p0.2 p1.1 p1.2 p.1 p.2) || rcOn p1.1 p1.2 p2.1 p2.2 p.1 p.2) || rcOn p2.1 p2.2 p3.1 p3.2 p.1 p.2) || rcOn p3.1 p3.2 p0.1 p0.2 p.1 p.2) &&
        ((((false != rcIn p0.1 p0.2 p1.1 p1.2 p.1 p.2) != rcIn p1.1 p1.2 p2.1 p2.2 p.1 p.2) != rcIn p2.1 p2.2 p3.1 p3.2 p.1 p.2) != rcIn p3.1 p3.2 p0.1 p0.2 p.1 p.2)))) := by
  unfold ringHas
  rw [qd_seg]
  rfl
theorem qd_any (p0 p1 p2 p3 : Int × Int) (F : Int × Int → Int × Int → Bool) : anyN (fun k => F (at' (qd p0 p1 p2 p3) k) (nxp (qd p0 p1 p2 p3) k)) (nSeg true (qd p0 p1 p2 p3)) = ((((false || F p0 p1) || F p1 p2) || F p2 p3) || F p3 p0) := by
  rw [qd_seg]; rfl
theorem qd_cnt (p0 p1 p2 p3 : Int × Int) (F : Int × Int → Int × Int → Bool) : cntN (fun k => F (at' (qd p0 p1 p2 p3) k) (nxp (qd p0 p1 p2 p3) k)) (nSeg true (qd p0 p1 p2 p3)) = (((0 + if F p0 p1 = true then 1 else 0) + if F p1 p2 = true then 1 else 0) + if F p2 p3 = true then 1 else 0) + if F p3 p0 = true then 1 else 0 := by
  rw [qd_seg]; rfl
theorem qd_pts (p0 p1 p2 p3 : Int × Int) (F : Int × Int → Bool) : anyN (fun k => F (at' (qd p0 p1 p2 p3) k)) (qd p0 p1 p2 p3).length = (((((false || F p0) || F p1) || F p2) || F p3) || F p0) := rfl
theorem qd_rot (p0 p1 p2 p3 : Int × Int) : Like (qd p0 p1 p2 p3) (qd p1 p2 p3 p0) := by
  have hb : ppB true (qd p0 p1 p2 p3) = ppB true (qd p1 p2 p3 p0) := qd_box fun p => by simp [qd]; grind
  refine ⟨hb, fun p al => ?_, fun F _ _ => ?_, fun F _ _ => ?_, fun F => ?_⟩
  · rw [qd_has, qd_has, hb]
    generalize rcOn p0.1 p0.2 p1.1 p1.2 p.1 p.2 = x0
    generalize rcOn p1.1 p1.2 p2.1 p2.2 p.1 p.2 = x1
    generalize rcOn p2.1 p2.2 p3.1 p3.2 p.1 p.2 = x2
    generalize rcOn p3.1 p3.2 p0.1 p0.2 p.1 p.2 = x3
    generalize rcIn p0.1 p0.2 p1.1 p1.2 p.1 p.2 = y0
    generalize rcIn p1.1 p1.2 p2.1 p2.2 p.1 p.2 = y1
    generalize rcIn p2.1 p2.2 p3.1 p3.2 p.1 p.2 = y2
    generalize rcIn p3.1 p3.2 p0.1 p0.2 p.1 p.2 = y3
    congr 1
    have e1 : ((((false || x0) || x1) || x2) || x3) = ((((false || x1) || x2) || x3) || x0) := by cases x0 <;> cases x1 <;> cases x2 <;> cases x3 <;> rfl
    have e2 : ((((false != y0) != y1) != y2) != y3) = ((((false != y1) != y2) != y3) != y0) := by cases y0 <;> cases y1 <;> cases y2 <;> cases y3 <;> rfl
    rw [e1, e2]
  · rw [qd_any, qd_any]
    generalize F p0 p1 = x0
    generalize F p1 p2 = x1
    generalize F p2 p3 = x2
    generalize F p3 p0 = x3
    cases x0 <;> cases x1 <;> cases x2 <;> cases x3 <;> rfl
  · rw [qd_cnt, qd_cnt]
    congr 2
    omega
  · rw [qd_pts, qd_pts]
    generalize F p0 = x0
    generalize F p1 = x1
    generalize F p2 = x2
    generalize F p3 = x3
    cases x0 <;> cases x1 <;> cases x2 <;> cases x3 <;> rfl
theorem qd_rev (p0 p1 p2 p3 : Int × Int) : Like (qd p1 p0 p3 p2) (qd p0 p1 p2 p3) := by
  have hb : ppB true (qd p1 p0 p3 p2) = ppB true (qd p0 p1 p2 p3) := qd_box fun p => by simp [qd]; grind
  refine ⟨hb, fun p al => ?_, fun F hF _ => ?_, fun F hF _ => ?_, fun F => ?_⟩
  · rw [qd_has, qd_has, hb, rcOn_swap (Bx := p1.1) (By := p1.2) (Ax := p0.1) (Ay := p0.2), rcOn_swap (Bx := p0.1) (By := p0.2) (Ax := p3.1) (Ay := p3.2), rcOn_swap (Bx := p3.1) (By := p3.2) (Ax := p2.1) (Ay := p2.2), rcOn_swap (Bx := p2.1) (By := p2.2) (Ax := p1.1) (Ay := p1.2),
      rcIn_swap (Bx := p1.1) (By := p1.2) (Ax := p0.1) (Ay := p0.2), rcIn_swap (Bx := p0.1) (By := p0.2) (Ax := p3.1) (Ay := p3.2), rcIn_swap (Bx := p3.1) (By := p3.2) (Ax := p2.1) (Ay := p2.2), rcIn_swap (Bx := p2.1) (By := p2.2) (Ax := p1.1) (Ay := p1.2)]
    generalize rcOn p0.1 p0.2 p1.1 p1.2 p.1 p.2 = x0
    generalize rcOn p1.1 p1.2 p2.1 p2.2 p.1 p.2 = x1
    generalize rcOn p2.1 p2.2 p3.1 p3.2 p.1 p.2 = x2
    generalize rcOn p3.1 p3.2 p0.1 p0.2 p.1 p.2 = x3
    generalize rcIn p0.1 p0.2 p1.1 p1.2 p.1 p.2 = y0
    generalize rcIn p1.1 p1.2 p2.1 p2.2 p.1 p.2 = y1
    generalize rcIn p2.1 p2.2 p3.1 p3.2 p.1 p.2 = y2
    generalize rcIn p3.1 p3.2 p0.1 p0.2 p.1 p.2 = y3
    congr 1
    have e1 : ((((false || x0) || x3) || x2) || x1) = ((((false || x0) || x1) || x2) || x3) := by cases x0 <;> cases x1 <;> cases x2 <;> cases x3 <;> rfl
    have e2 : ((((false != y0) != y3) != y2) != y1) = ((((false != y0) != y1) != y2) != y3) := by cases y0 <;> cases y1 <;> cases y2 <;> cases y3 <;> rfl
    rw [e1, e2]
  · rw [qd_any, qd_any, hF p1 p0, hF p0 p3, hF p3 p2, hF p2 p1]
    generalize F p0 p1 = x0
    generalize F p1 p2 = x1
    generalize F p2 p3 = x2
    generalize F p3 p0 = x3
    cases x0 <;> cases x1 <;> cases x2 <;> cases x3 <;> rfl
  · rw [qd_cnt, qd_cnt, hF p1 p0, hF p0 p3, hF p3 p2, hF p2 p1]
    congr 2
    omega
  · rw [qd_pts, qd_pts]
    generalize F p0 = x0
    generalize F p1 = x1
    generalize F p2 = x2
    generalize F p3 = x3
    cases x0 <;> cases x1 <;> cases x2 <;> cases x3 <;> rfl
section
variable {KK S DX DY : Int}
theorem rl_turn (hK : 0 ≤ KK ∧ KK ≤ 7) (hS : 0 < S) {a b c d : Int} (h1 : a < c) (h2 : b < d) : Like ((rl a b c d).map (tpt KK S DX DY)) (rl (rx0 KK S DX DY a b c d) (ry0 KK S DX DY a b c d) (rx1 KK S DX DY a b c d) (ry1 KK S DX DY a b c d)) := by
  have e := mbx_of (DX := DX) (DY := DY) hK hS (a, b, c, d) ⟨Int.le_of_lt h1, Int.le_of_lt h2⟩
  unfold mbx at e
  simp only [Prod.mk.injEq] at e
  have R : ∀ p0 p1 p2 p3 : Int × Int, Like (qd p1 p2 p3 p0) (qd p0 p1 p2 p3) := fun p0 p1 p2 p3 => (qd_rot p0 p1 p2 p3).symm
  show Like (qd (tpt KK S DX DY (a, b)) (tpt KK S DX DY (c, b)) (tpt KK S DX DY (c, d)) (tpt KK S DX DY (a, d))) (qd (rx0 KK S DX DY a b c d, ry0 KK S DX DY a b c d) (rx1 KK S DX DY a b c d, ry0 KK S DX DY a b c d) (rx1 KK S DX DY a b c d, ry1 KK S DX DY a b c d) (rx0 KK S DX DY a b c d, ry1 KK S DX DY a b c d))
  rcases kinds hK with rfl | rfl | rfl | rfl | rfl | rfl | rfl | rfl
  all_goals
    simp only [Int.reduceEq, if_true, if_false, Prod.mk.injEq] at e
    obtain ⟨e1, e2, e3, e4⟩ := e
    rw [e1, e2, e3, e4]
    simp only [tpt0, tpt1, tpt2, tpt3, tpt4, tpt5, tpt6, tpt7]
  · exact Like.refl _
  · exact R _ _ _ _
  · exact (R _ _ _ _).trans (R _ _ _ _)
  · exact qd_rot _ _ _ _
  · exact qd_rev _ _ _ _
  · exact (qd_rot _ _ _ _).trans (qd_rev _ _ _ _)
  · exact (qd_rot _ _ _ _).trans ((qd_rot _ _ _ _).trans (qd_rev _ _ _ _))
  · exact (R _ _ _ _).trans (qd_rev _ _ _ _)
theorem shOk_turn (hK : 0 ≤ KK ∧ KK ≤ 7) (hS : 1 ≤ S ∧ S ≤ 8) (hD : -4096 ≤ DX ∧ DX ≤ 4096 ∧ -4096 ≤ DY ∧ DY ≤ 4096) {K : Int} {l : List (Int × Int)} {H : List (List (Int × Int))} (h : VaryS K l H) : ShOk K l H ∧ ShOk K (vsl KK S DX DY K l) (H.map fun x => x.map (tpt KK S DX DY)) := by
  have hb : ∀ x : List (Int × Int), x.all okP = true → (∀ p ∈ x, Bn3 p) ∧ ∀ p ∈ x.map (tpt KK S DX DY), Bn3 p := by
    intro x hx
    refine ⟨fun p hp => ?_, fun p hp => ?_⟩
    · have := okP_bnd hx
      have := List.all_eq_true.1 hx p hp
      simp [okP] at this
      unfold Bn3
      omega
    · obtain ⟨⟨q1, q2⟩, hq, rfl⟩ := List.mem_map.1 hp
      have := List.all_eq_true.1 hx _ hq
      simp [okP] at this
      have := tpt_bd2 KK S DX DY hK hS hD q1 q2 (by omega)
      unfold Bn3
      omega
  obtain ⟨ho, h3, hn, hh, hk⟩ := h
  have hH : ∀ x ∈ H, okRn x := fun x hx => ⟨(hh x hx).1, by have := (hh x hx).2.1; omega, (hb x (hh x hx).2.2).1⟩
  have hH2 : ∀ x ∈ H.map fun x => x.map (tpt KK S DX DY), okRn x := by
    intro x hx
    obtain ⟨y, hy, rfl⟩ := List.mem_map.1 hx
    exact ⟨by rw [List.length_map]; exact (hh y hy).1, by rw [List.length_map]; have := (hh y hy).2.1; omega, (hb y (hh y hy).2.2).2⟩
  rcases hk with ⟨rfl, g⟩ | ⟨rfl, X0, Y0, X1, Y1, rfl, g1, g2⟩ | ⟨rfl, g1, g2⟩ | ⟨rfl, g1, g2⟩
  · obtain ⟨p, rfl⟩ := List.length_eq_one_iff.1 g
    exact ⟨⟨(hb _ ho).1, h3, hH, .inl ⟨rfl, p, rfl⟩⟩, (hb _ ho).2, by rw [List.length_map]; exact h3, hH2, .inl ⟨rfl, _, rfl⟩⟩
  · refine ⟨⟨(hb _ ho).1, h3, hH, .inr (.inl ⟨rfl, _, _, _, _, rfl, g1, g2⟩)⟩, ?_, by rw [List.length_map]; exact h3, hH2, .inr (.inl ⟨rfl, _, _, _, _, rfl, (rect_order hK (by omega) g1 g2).1, (rect_order hK (by omega) g1 g2).2⟩)⟩
    have b0 := (hb _ ho).2 (tpt KK S DX DY (X0, Y0)) (by simp)
    have b1 := (hb _ ho).2 (tpt KK S DX DY (X1, Y1)) (by simp)
    unfold Bn3 at b0 b1
    intro p hp
    unfold Bn3
    rcases List.mem_cons.1 hp with rfl | hp
    · show Int.natAbs (min _ _) ≤ _ ∧ Int.natAbs (min _ _) ≤ _
      show Int.natAbs (min (tpt KK S DX DY (X0, Y0)).1 (tpt KK S DX DY (X1, Y1)).1) ≤ _ ∧ Int.natAbs (min (tpt KK S DX DY (X0, Y0)).2 (tpt KK S DX DY (X1, Y1)).2) ≤ _
      omega
    · rcases List.mem_cons.1 hp with rfl | hp
      · show Int.natAbs (max (tpt KK S DX DY (X0, Y0)).1 (tpt KK S DX DY (X1, Y1)).1) ≤ _ ∧ Int.natAbs (max (tpt KK S DX DY (X0, Y0)).2 (tpt KK S DX DY (X1, Y1)).2) ≤ _
        omega
      · cases hp
  · exact ⟨⟨(hb _ ho).1, h3, hH, .inr (.inr (.inl ⟨rfl, g1, g2⟩))⟩, (hb _ ho).2, by rw [List.length_map]; exact h3, hH2, .inr (.inr (.inl ⟨rfl, by show 2 ≤ (l.map _).length; rw [List.length_map]; exact g1, by show (l.map _).length ≤ 12; rw [List.length_map]; exact g2⟩))⟩
  · exact ⟨⟨(hb _ ho).1, h3, hH, .inr (.inr (.inr ⟨rfl, g1, g2⟩))⟩, (hb _ ho).2, by rw [List.length_map]; exact h3, hH2, .inr (.inr (.inr ⟨rfl, by show 3 ≤ (l.map _).length; rw [List.length_map]; exact g1, by show (l.map _).length ≤ 12; rw [List.length_map]; exact g2⟩))⟩
set_option maxHeartbeats 400000 in
theorem mtV_turn (hK : 0 ≤ KK ∧ KK ≤ 7) (hS : 0 < S) {K J : Int} {l m : List (Int × Int)} {H G : List (List (Int × Int))} (h : ShOk K l H) (hJ : ShOk J m G) :
    mtV K (vsl KK S DX DY K l) (H.map fun x => x.map (tpt KK S DX DY)) J (vsl KK S DX DY J m) (G.map fun x => x.map (tpt KK S DX DY)) = mtV K l H J m G := by
  obtain ⟨-, -, hH, hk⟩ := h
  obtain ⟨-, -, hG, hj⟩ := hJ
  have hH3 : ∀ x ∈ H, 3 ≤ x.length := fun x hx => (hH x hx).1
  have hG3 : ∀ x ∈ G, 3 ≤ x.length := fun x hx => (hG x hx).1
  have hg := good_tpt KK S DX DY hS
  have h5 : ∀ a b c d : Int, 3 ≤ (rl a b c d).length := fun _ _ _ _ => Nat.le_add_left 3 2
  rcases hk with ⟨rfl, p, rfl⟩ | ⟨rfl, a, b, c, d, rfl, h1, h2⟩ | ⟨rfl, h1, h2⟩ | ⟨rfl, h1, h2⟩ <;> rcases hj with ⟨rfl, q, rfl⟩ | ⟨rfl, a', b', c', d', rfl, g1, g2⟩ | ⟨rfl, g1, g2⟩ | ⟨rfl, g1, g2⟩ <;>
    simp only [mtV, byK, vsl, Int.reduceEq, if_true, if_false]
  · exact decide_eq_decide.2 (tpt_eq hK hS p q)
  · exact inB_mbx hK hS (a := (a', b', c', d')) ⟨Int.le_of_lt g1, Int.le_of_lt g2⟩ p
  · exact ptL_map hS (p := p)
  · exact polHas_map hg g1 hG3
  · exact inB_mbx hK hS (a := (a, b, c, d)) ⟨Int.le_of_lt h1, Int.le_of_lt h2⟩ q
  · exact bmB_mbx hK hS (a := (a, b, c, d)) (b := (a', b', c', d')) ⟨Int.le_of_lt h1, Int.le_of_lt h2⟩ ⟨Int.le_of_lt g1, Int.le_of_lt g2⟩
  · exact (rilV_like (rl_turn (DX := DX) (DY := DY) hK hS h1 h2).symm).trans (rilV_map hK hS (h5 _ _ _ _) (by omega))
  · have e := polV_map (DX := DX) (DY := DY) (l := m) (m := rl a b c d) (H := G) (G := []) hK hS g1 (h5 _ _ _ _) hG3 (fun x hx => by cases hx)
    rw [List.map_nil] at e
    show polV (m.map (tpt KK S DX DY)) (G.map fun x => x.map (tpt KK S DX DY)) (rl (rx0 KK S DX DY a b c d) (ry0 KK S DX DY a b c d) (rx1 KK S DX DY a b c d) (ry1 KK S DX DY a b c d)) [] = polV m G (rl a b c d) []
    rw [← polV_like (G := []) (Like.refl _) (rl_turn hK hS h1 h2) (by rw [List.length_map]; exact g1) (by rw [List.length_map]; exact h5 _ _ _ _), e]
  · exact ptL_map hS (p := q)
  · exact (rilV_like (rl_turn (DX := DX) (DY := DY) hK hS g1 g2).symm).trans (rilV_map hK hS (h5 _ _ _ _) (by omega))
  · exact linV_map hK hS
  · exact polLV_map hK hS g1 (by omega) hG3
  · exact polHas_map hg h1 hH3
  · have e := polV_map (DX := DX) (DY := DY) (l := l) (m := rl a' b' c' d') (H := H) (G := []) hK hS h1 (h5 _ _ _ _) hH3 (fun x hx => by cases hx)
    rw [List.map_nil] at e
    show polV (l.map (tpt KK S DX DY)) (H.map fun x => x.map (tpt KK S DX DY)) (rl (rx0 KK S DX DY a' b' c' d') (ry0 KK S DX DY a' b' c' d') (rx1 KK S DX DY a' b' c' d') (ry1 KK S DX DY a' b' c' d')) [] = polV l H (rl a' b' c' d') []
    rw [← polV_like (G := []) (Like.refl _) (rl_turn hK hS g1 g2) (by rw [List.length_map]; exact h1) (by rw [List.length_map]; exact h5 _ _ _ _), e]
  · exact polLV_map hK hS h1 (by omega) hH3
  · exact polV_map hK hS h1 g1 hH3 hG3
end
end Go.Proofs.YtbfanhdofopnnaaGreat
