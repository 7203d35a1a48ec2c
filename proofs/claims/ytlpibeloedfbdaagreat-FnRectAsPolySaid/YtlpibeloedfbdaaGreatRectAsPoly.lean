/-
  Proved: FnRectAsPoly returns true for every input, and leaves its arguments as they were. No conditions.
-/
import Derived.Test.YtlpibeloedfbdaaGreatRows
import Derived.Test.YtlpibeloedfbdaaGreatQX
import Derived.ProofKit
import Derived.Lib.SmallJoins
import Derived.Carry
import Derived.OpenShut
import Derived.Deep.SlicePairs
import Derived.ChangeArms
set_option linter.unusedSimpArgs false
set_option linter.unusedVariables false
namespace Go.Proofs.YtlpibeloedfbdaaGreat
open Go.ChangeShapes Go.WideShapes Go.ChangeAt Go.RowKit Go.Joins Go.Deep PF

section
variable {H : Type} {enc : TypeId × Value → H} {P : Program} {w : World} {base : Nat} {spare : Nat → Bool} {held : Bool}
theorem _root_.PF.open_arr22 {r : Reach} {b0 : Nat} {t e : TypeId} {f0 f1 : Field} {v : Value} {d : DataW H} {p : List MemPlace} (ht : P.underlying t = some (.array 2 e)) (hs : P.underlying e = some (.struct #[f0, f1])) (hone : oneCellFields P #[f0, f1] = true) (hT : P.cellsOf t = 4) (hE : P.cellsOf e = 2)
    (hv : Value.okWide P w r b0 t v) (h : DataW.Trod enc P w base spare held t v d p) :
    ∃ (v0 v1 v2 v3 : Value) (y0 y1 y2 y3 : DataW H × List MemPlace) (n : Nat), v = .agg #[v0, v1, v2, v3] ∧ d = .agg [.agg [y0.1, y1.1], .agg [y2.1, y3.1]] ∧ p = (y0.2 ++ y1.2) ++ (y2.2 ++ y3.2) ∧
      DataW.trod enc P w base spare held n f0.type [v0] = some y0 ∧ DataW.trod enc P w base spare held n f1.type [v1] = some y1 ∧ (∃ m, DataW.trod enc P w base spare held m f0.type [v2] = some y2) ∧ ∃ m, DataW.trod enc P w base spare held m f1.type [v3] = some y3 := by
  simp only [Value.okWide, ht] at hv
  obtain ⟨cs, rfl, hsz, _⟩ := hv
  obtain ⟨c0, c1, c2, c3, rfl⟩ := array4 (hsz.trans hT)
  obtain ⟨fuel, hf⟩ := h
  obtain ⟨xs, m, -, hx, -, hl, hel⟩ := DataW.trod_array ht hf
  have h0 := hel 0 (by decide)
  have h1 := hel 1 (by decide)
  match xs, hl, hx, h0, h1 with
  | [x0, x1], _, hx, h0, h1 =>
    simp [Value.cells, hE] at h0 h1
    obtain ⟨o0, k0⟩ := hone_of hone 0 f0 rfl
    obtain ⟨o1, k1⟩ := hone_of hone 1 f1 rfl
    obtain ⟨y0, y1, n, hx0, _, g0, g1⟩ := trod_struct2 hs h0
    obtain ⟨y2, y3, n', hx1, _, g2, g3⟩ := trod_struct2 hs h1
    simp only [Prod.mk.injEq] at hx
    refine ⟨c0, c1, c2, c3, y0, y1, y2, y3, n, rfl, ?_, ?_, by simpa [o0, k0] using g0, by simpa [o1, k1] using g1, ⟨n', by simpa [o0, k0] using g2⟩, ⟨n', by simpa [o1, k1] using g3⟩⟩
    · rw [hx.1, hx0, hx1]; rfl
    · rw [hx.2, hx0, hx1]; simp
end
theorem ownTrR : ownKnob Tryz.prog.godebug = none := by kernel_rfl
theorem laidTrR : laidOutB Tryz.prog = true := by kernel_rfl
theorem cellsP2R : Tryz.prog.cellsOf 23 = 2 := by kernel_rfl
theorem cellsA4R : Tryz.prog.cellsOf 24 = 4 := by kernel_rfl
theorem cellsShR : Tryz.prog.cellsOf 28 = 3 := by kernel_rfl
theorem cellsSlR : Tryz.prog.cellsOf 25 = 1 := by kernel_rfl

theorem add_plain {w : World} {a : Addr} {x : Value} (h : w.cell? (a.add 0) = some x) (k : Nat) : a.add k = ⟨a.block, a.off + k, none⟩ := by
  have hs : a.spot = none := by
    cases hh : a.spot with
    | none => rfl
    | some s =>
      unfold World.cell? Addr.add at h
      simp only [if_true] at h
      rw [hh] at h
      cases hb : w.heap[a.block]? with
      | none => simp [hb] at h
      | some o => cases o <;> simp [hb] at h
  obtain ⟨b, o, s⟩ := a
  simp only at hs
  subst hs
  unfold Addr.add
  split
  · simp_all
  · rfl
def ivR : Value → Int
  | .int _ n => n
  | _ => 0
section
variable {H : Type} {enc : TypeId × Value → H} {w : World} {base : Nat} {spare : Nat → Bool} {held : Bool}
theorem slp_of_trod {n : Nat} {v : Value} {x : DataW H × List MemPlace} (h : DataW.trod enc Tryz.prog w base spare held n 25 [v] = some x) : ∃ l : List (Int × Int), SlP w v l ∧ l.length ≤ 9223372036854775807 := by
  rcases open_slice_pairs Tryz.underlying25 Tryz.underlying23 cellsP2R rfl rfl (by kernel_rfl) (by kernel_rfl) h with ⟨h1, -⟩ | ⟨a, len, cap, m, n', V0, V1, D0, D1, P0, P1, h1, -, hl, hm, hmm, -, hi⟩
  · obtain rfl : v = .slice none 0 0 := by simpa using h1
    exact ⟨[], ⟨none, 0, rfl, fun k p hp => by simp at hp⟩, by simp⟩
  · obtain rfl : v = .slice (some a) len cap := by simpa using h1
    have hlm : len ≤ m := by rw [hmm]; split <;> omega
    refine ⟨(List.range len).map fun i => (ivR (V0 i), ivR (V1 i)), ⟨some a, cap, by simp, fun k p hp => ?_⟩, by simp; unfold maxLen at hm; omega⟩
    have hk : k < len := by
      rcases Nat.lt_or_ge k len with h | h
      · exact h
      · rw [List.getElem?_eq_none (by simp; omega)] at hp; cases hp
    obtain rfl : (ivR (V0 k), ivR (V1 k)) = p := by simpa [List.getElem?_map, List.getElem?_range hk] using hp
    obtain ⟨g1, g2, g3, g4⟩ := hi k (by omega)
    obtain ⟨g0, -⟩ := hi 0 (by omega)
    rw [Nat.zero_mul] at g0
    obtain ⟨K0, z0, -, -⟩ := DataW.trod_int Tryz.underlying2 g3
    obtain ⟨K1, z1, -, -⟩ := DataW.trod_int Tryz.underlying2 g4
    simp at z0 z1
    rw [add_plain g0] at g1 g2
    refine ⟨a.block, a.off, ?_, ?_, ?_⟩
    · have := add_plain g0 0
      rw [show a.add 0 = a from rfl] at this
      rw [this]
    · rw [g1, z0]; rfl
    · rw [show a.off + k * 2 + 1 = a.off + (k * 2 + 1) from by omega, g2, z1]; rfl
theorem slh_of_trod {n : Nat} {v : Value} {x : DataW H × List MemPlace} (h : DataW.trod enc Tryz.prog w base spare held n 26 [v] = some x) : ∃ L : List (List (Int × Int)), SlH w v L ∧ L.length ≤ 9223372036854775807 ∧ ∀ l ∈ L, l.length ≤ 9223372036854775807 := by
  rcases open_slice Tryz.underlying26 h with ⟨h1, -⟩ | ⟨a, len, cap, m, n', D, Pl, h1, -, hl, hm, hmm, -, hi⟩
  · obtain rfl : v = .slice none 0 0 := by simpa using h1
    exact ⟨[], ⟨none, 0, rfl, fun k p hp => by simp at hp⟩, by simp, by simp⟩
  · obtain rfl : v = .slice (some a) len cap := by simpa using h1
    have hlm : len ≤ m := by rw [hmm]; split <;> omega
    have each : ∀ i, i < m → ∃ l : List (Int × Int), ∃ y, w.cell? (a.add i) = some y ∧ SlP w y l ∧ l.length ≤ 9223372036854775807 := by
      intro i him
      obtain ⟨cs', hc, ht⟩ := hi i him
      rw [cellsSlR, Nat.mul_one] at hc
      obtain ⟨_, hcl, hat⟩ := World.cells?_some hc
      match cs', hcl with
      | [y], _ =>
        have hcell := hat 0 (by omega)
        obtain ⟨l, hl, hll⟩ := slp_of_trod ht
        exact ⟨l, y, by rw [show a.add i = (a.add i).add 0 from rfl, hcell]; rfl, hl, hll⟩
    refine ⟨(List.range len).map fun i => if h : i < m then Classical.choose (each i h) else [], ⟨some a, cap, by simp, fun k p hp => ?_⟩, by simp; unfold maxLen at hm; omega, ?_⟩
    · have hk : k < len := by
        rcases Nat.lt_or_ge k len with h | h
        · exact h
        · rw [List.getElem?_eq_none (by simp; omega)] at hp; cases hp
      have hkm : k < m := by omega
      obtain rfl : Classical.choose (each k hkm) = p := by simpa [List.getElem?_map, List.getElem?_range hk, hkm] using hp
      obtain ⟨y, g1, g2, -⟩ := Classical.choose_spec (each k hkm)
      obtain ⟨-, y0, g0, -, -⟩ := each 0 (by omega)
      rw [add_plain g0] at g1
      have := add_plain g0 0
      rw [show a.add 0 = a from rfl] at this
      exact ⟨a.block, a.off, y, by rw [this], g1, g2⟩
    · intro l hl
      simp at hl
      obtain ⟨i, hi', rfl⟩ := hl
      have him : i < m := by omega
      rw [dif_pos him]
      obtain ⟨y, -, -, g3⟩ := Classical.choose_spec (each i him)
      exact g3
end

set_option maxRecDepth 100000 in
theorem rectAsPoly_lifted (os : Os) (started : os.Started) (H : Type) (enc : TypeId × Value → H) :
    ReturnsInHanded {} Tryz.checked os 3 .any (Rows.fnRectAsPolySpec.pre6 enc Tryz.prog Tryz.f3 Rows.fnRectAsPolyRow.domain false) (Rows.fnRectAsPolySpec.post enc Tryz.prog Tryz.f3 false true false false) := by
  refine returnsInHanded_of_change (C := Tryz.checked) ownTrR started (by kernel_rfl) Tryz.func3
    (ChangeSpec.witness6 (enc := enc) (C := Tryz.checked) false ⟨#[], #[.agg #[.int .i64 0, .int .i64 0, .int .i64 0, .int .i64 0], .agg #[.int .i64 0, .slice none 0 0, .slice none 0 0], .int .u8 0], []⟩ 8 (by kernel_rfl) (by kernel_rfl) (by kernel_rfl) (by kernel_rfl)) ?_
  intro W base args ds gs before hval0 hW hcnd _
  have hval : ∀ (j : Nat) t v, Tryz.f3.params[j]? = some t → args[j]? = some v → Value.okWide Tryz.prog W .any base t v := hval0
  have hW' := hW
  obtain ⟨p, q, hA0, hV, rfl, hfz, hnd⟩ := hW
  have hA : DataW.TrodAll enc Tryz.prog W 0 (fun _ => true) true Tryz.f3.params.toList args.toList ds p := hA0
  rw [Tryz.params3] at hA hval
  have hA1 := hA
  obtain ⟨v0, r0, d0, e0, p0, q0, hv0, rfl, rfl, h0, hA1⟩ := trodAll_cons hA1
  obtain ⟨v1, r1, d1, e1, p1, q1, rfl, rfl, rfl, h1, hA1⟩ := trodAll_cons hA1
  obtain ⟨v2, r2, d2, e2, p2, q2, rfl, rfl, rfl, h2, hA1⟩ := trodAll_cons hA1
  obtain ⟨rfl, rfl, rfl⟩ := trodAll_nil hA1
  obtain rfl : args = #[v0, v1, v2] := by cases args; simp_all
  obtain ⟨rfl, rfl⟩ := trodVars_none hV
  have k0 := h0
  have k1 := h1
  have k2 := h2
  obtain ⟨a1, b1, c1, d1, y10, y11, y12, y13, m1, rfl, rfl, rfl, g10, g11, ⟨mm1, g12⟩, ⟨mn1, g13⟩⟩ := PF.open_arr22 Tryz.underlying24 Tryz.underlying23 (by kernel_rfl) cellsA4R cellsP2R (hval 0 24 v0 rfl rfl) h0
  obtain ⟨x1, z0, rfl, wx1⟩ := DataW.trod_int Tryz.underlying2 g10
  obtain ⟨y1, z1, rfl, wy1⟩ := DataW.trod_int Tryz.underlying2 g11
  obtain ⟨x2, z2, rfl, wp1⟩ := DataW.trod_int Tryz.underlying2 g12
  obtain ⟨y2, z3, rfl, wq1⟩ := DataW.trod_int Tryz.underlying2 g13
  simp at z0 z1 z2 z3
  subst z0 z1 z2 z3
  obtain ⟨cI, cP, cH, yI, yP, yH, m0, rfl, rfl, rfl, gI, gP, gH⟩ := open_agg3 Tryz.underlying28 (by kernel_rfl) cellsShR (hval 1 28 v1 rfl rfl) h1
  obtain ⟨kind, zI, rfl, wI⟩ := DataW.trod_int Tryz.underlying2 gI
  simp at zI
  subst zI
  obtain ⟨l, hsl, hll⟩ := slp_of_trod gP
  obtain ⟨L, hsh, hLl, hLL⟩ := slh_of_trod gH
  obtain ⟨kd, rfl, -, -, wkd⟩ := open_int Tryz.underlying5 (hval 2 5 v2 rfl rfl) h2
  clear hA0 hval0 hA
  have hkd : 0 ≤ kd ∧ kd ≤ 255 := by simp [Lit.wf, IntKind.min, IntKind.max, IntKind.signed, IntKind.bits] at wkd; omega
  obtain ⟨kn, rfl⟩ : ∃ kn : Nat, kd = kn := ⟨kd.toNat, by omega⟩
  refine (rap_c x1 y1 x2 y2 kind l L hll hLl hLL kn (by omega) cP cH W hsl hsh).mono fun e W' ⟨he, hB⟩ => ?_
  subst he
  have A := trodAll_mk3 (Below.trod laidTrR (by kernel_rfl) (of_decide_eq_true (by kernel_rfl)) k0 hB (fun x hx => k0.elim fun n hn => DataW.trod_lt n _ _ _ hn x hx)) (Below.trod laidTrR (by kernel_rfl) (of_decide_eq_true (by kernel_rfl)) k1 hB (fun x hx => k1.elim fun n hn => DataW.trod_lt n _ _ _ hn x hx)) (Below.trod laidTrR (by kernel_rfl) (of_decide_eq_true (by kernel_rfl)) k2 hB (fun x hx => k2.elim fun n hn => DataW.trod_lt n _ _ _ hn x hx))
  refine ⟨_, rfl, _, _, _, [], _, [], hW', ?_, A, rfl, hB.frame _, fun h => by cases h⟩
  have u : Tryz.checked.prog.underlying 4 = some .bool := Tryz.underlying4
  exact trodAll_mk1 ⟨1, by simp [DataW.trod, u, Value.cells]⟩

theorem rectAsPoly_holds : Rows.FnRectAsPolySaid :=
  OpenClaim.holds_of_wide 3 Tryz.f3 rfl rfl rfl rfl rfl rfl rfl ⟨rfl, rfl, rfl, rfl, rfl⟩ rfl rfl rfl rfl rfl (by kernel_rfl) Tryz.func3 (by kernel_rfl)
    (of_decide_eq_true (by kernel_rfl)) (by unfold Func.isWrapper; first | (rw [if_pos (by decide +kernel)]; kernel_rfl) | (rw [if_neg (by decide +kernel)]; exact ⟨rfl, rfl⟩))
    (fun os started H enc _ => rectAsPoly_lifted os started H enc)
end Go.Proofs.YtlpibeloedfbdaaGreat
