import Derived.Test.YtlpibeloedfbdaaGreatQL
import Derived.Test.YtlpibeloedfbdaaGreatQK
import Derived.Test.YtlpibeloedfbdaaGreatQT
import Derived.Test.YtlpibeloedfbdaaGreatIxA
set_option linter.unusedSimpArgs false
set_option linter.unusedVariables false
/-! ringIntersectsRing, what stands on the edge counted (printed by gen/lg.py). -/
namespace Go.Proofs.YtlpibeloedfbdaaGreat
open Go.RowKit PF JR
/-- a rectangle's area -/
def arB (b : Int × Int × Int × Int) : Int := (b.2.2.1 - b.1) * (b.2.2.2 - b.2.1)
theorem area_r {b : Int × Int × Int × Int} (h : BdR b) : ∃ m : Nat, Rep m (arB b) ∧ ∀ w : World, Calls Tryz.prog 30 #[.agg #[fl (fb b.1), fl (fb b.2.1), fl (fb b.2.2.1), fl (fb b.2.2.2)]] w fun e w' => e = .returned (fl m) ∧ Below w.heap.size w w' := by
  obtain ⟨h1, h2, h3, h4⟩ := h
  obtain ⟨d, e1, r1⟩ := sub_rep (fb_rep b.2.2.1 (by omega)) (fb_rep b.1 (by omega)) (by omega)
  obtain ⟨e, e2, r2⟩ := sub_rep (fb_rep b.2.2.2 (by omega)) (fb_rep b.2.1 (by omega)) (by omega)
  have hb : ((b.2.2.1 - b.1) * (b.2.2.2 - b.2.1)).natAbs ≤ 2000000 * 2000000 := mul_bnd (by omega) (by omega)
  obtain ⟨m, e3, r3⟩ := mul_rep r1 r2 (by omega)
  exact ⟨m, r3, fun w => area_c e1 e2 e3 w⟩
set_option maxRecDepth 100000 in
set_option maxHeartbeats 8000000 in
theorem rir2_c {f1 f2 : RF} {T1 T2 : TypeId} {y1 y2 : Value} {l m : List (Int × Int)} {w : World} (H1 : RingM f1 T1 y1 true l w) (H2 : RingM f2 T2 y2 true m w) (hbl : BdR (ppB true l)) (hbm : BdR (ppB true m)) (R1 R2 : Nat → Bool)
    (hr1 : ∀ i, i < nSeg true m → ∀ u, Below w.heap.size w u → Calls Tryz.prog 136 #[.iface T1 y1, sgv m i, .bool true] u fun e w' => e = .returned (.bool (R1 i)) ∧ Below u.heap.size u w')
    (hr2 : ∀ i, i < nSeg true l → ∀ u, Below w.heap.size w u → Calls Tryz.prog 136 #[.iface T2 y2, sgv l i, .bool true] u fun e w' => e = .returned (.bool (R2 i)) ∧ Below u.heap.size u w') :
    Calls Tryz.prog 141 #[.iface T1 y1, .iface T2 y2, .bool true] w fun e w' => e = .returned (.bool (decide ((ppB true l).1 ≤ (ppB true m).2.2.1 ∧ (ppB true m).1 ≤ (ppB true l).2.2.1 ∧ (ppB true l).2.1 ≤ (ppB true m).2.2.2 ∧ (ppB true m).2.1 ≤ (ppB true l).2.2.2) && (if arB (ppB true l) < arB (ppB true m) then anyN R2 (nSeg true l) else anyN R1 (nSeg true m)))) ∧ Below w.heap.size w w' := by
  obtain ⟨a1, ra1, ha1⟩ := area_r hbl
  obtain ⟨a2, ra2, ha2⟩ := area_r hbm
  have oa := oR ra2 ra1
  obtain ⟨x1, x2, x3, x4⟩ := hbl
  obtain ⟨x5, x6, x7, x8⟩ := hbm
  have hrir := fun u => rir_c (fb_rep (ppB true l).1 (by omega)) (fb_rep (ppB true l).2.1 (by omega)) (fb_rep (ppB true l).2.2.1 (by omega)) (fb_rep (ppB true l).2.2.2 (by omega)) (fb_rep (ppB true m).1 (by omega)) (fb_rep (ppB true m).2.1 (by omega)) (fb_rep (ppB true m).2.2.1 (by omega)) (fb_rep (ppB true m).2.2.2 (by omega)) u
  obtain ⟨bm, hbm⟩ : ∃ b, decide ((ppB true l).1 ≤ (ppB true m).2.2.1 ∧ (ppB true m).1 ≤ (ppB true l).2.2.1 ∧ (ppB true l).2.1 ≤ (ppB true m).2.2.2 ∧ (ppB true m).2.1 ≤ (ppB true l).2.2.2) = b := ⟨_, rfl⟩
  rw [hbm] at hrir
  simp only [hbm]
  clear hbm x1 x2 x3 x4 x5 x6 x7 x8
  obtain ⟨res, hres⟩ : ∃ r, (if arB (ppB true l) < arB (ppB true m) then anyN R2 (nSeg true l) else anyN R1 (nSeg true m)) = r := ⟨_, rfl⟩
  simp only [hres]
  have hNl := nseg_lenA true l
  have hNm := nseg_lenA true m
  have hl12 := H1.len
  have hm12 := H2.len
  have hc1 := H1.crect
  have hc2 := H2.crect
  have he1 := H1.cempty
  have he2 := H2.cempty
  obtain ⟨mr1, er1⟩ := H1.mrect
  obtain ⟨mr2, er2⟩ := H2.mrect
  obtain ⟨me1, ee1⟩ := H1.mempty
  obtain ⟨me2, ee2⟩ := H2.mempty
  generalize hA1 : arB (ppB true l) = A1 at *
  generalize hA2 : arB (ppB true m) = A2 at *
  clear hA1 hA2 ra1 ra2
  generalize ga : (Value.agg #[fl (fb (ppB true l).1), fl (fb (ppB true l).2.1), fl (fb (ppB true l).2.2.1), fl (fb (ppB true l).2.2.2)]) = RA at *
  generalize gb : (Value.agg #[fl (fb (ppB true m).1), fl (fb (ppB true m).2.1), fl (fb (ppB true m).2.2.1), fl (fb (ppB true m).2.2.2)]) = RB at *
  clear ga gb
  have B0 := Below.refl w.heap.size w
  go_enter Tryz.func141, Tryz.ntmps141
  go_wp2_with (with_reducible refine stopC f1.empty ?_)
  refine ⟨?_⟩
  refine (he1 _ B0).mono ?_
  rintro e w1 ⟨rfl, hb⟩
  have B1 := B0.trans (hb.mono B0.size)
  clear hb B0 he1
  go_wp2_with (with_reducible refine stopC f2.empty ?_)
  refine ⟨?_⟩
  refine (he2 _ B1).mono ?_
  rintro e w2 ⟨rfl, hb⟩
  have B2 := B1.trans (hb.mono B1.size)
  clear hb B1 he2
  go_wp2_with (with_reducible refine stopC f1.rect ?_)
  refine ⟨?_⟩
  refine (hc1 _ B2).mono ?_
  rintro e w3 ⟨rfl, hb⟩
  have B3 := B2.trans (hb.mono B2.size)
  clear hb B2
  go_wp2_with (with_reducible refine stopC f2.rect ?_)
  refine ⟨?_⟩
  refine (hc2 _ B3).mono ?_
  rintro e w4 ⟨rfl, hb⟩
  have B4 := B3.trans (hb.mono B3.size)
  clear hb B3
  go_wp2_with (go_at_call 25; refine JR.StopM.out ?_)
  refine ⟨?_⟩
  refine (hrir _).mono ?_
  rintro e w5 ⟨rfl, hb⟩
  have B5 := B4.trans (hb.mono B4.size)
  clear hb B4 hrir
  cases bm with
  | false =>
    go_wp2
    go_ret
    exact ⟨rfl, B5⟩
  | true =>
  go_wp2_with (with_reducible refine stopC f2.rect ?_)
  refine ⟨?_⟩
  refine (hc2 _ B5).mono ?_
  rintro e w6 ⟨rfl, hb⟩
  have B6 := B5.trans (hb.mono B5.size)
  clear hb B5 hc2
  go_wp2_with (go_at_call 30; refine JR.StopM.out ?_)
  refine ⟨?_⟩
  refine (ha2 _).mono ?_
  rintro e w7 ⟨rfl, hb⟩
  have B7 := B6.trans (hb.mono B6.size)
  clear hb B6 ha2
  go_wp2_with (with_reducible refine stopC f1.rect ?_)
  refine ⟨?_⟩
  refine (hc1 _ B7).mono ?_
  rintro e w8 ⟨rfl, hb⟩
  have B8 := B7.trans (hb.mono B7.size)
  clear hb B7 hc1
  go_wp2_with (go_at_call 30; refine JR.StopM.out ?_)
  refine ⟨?_⟩
  refine (ha1 _).mono ?_
  rintro e w9 ⟨rfl, hb⟩
  have B6 := B8.trans (hb.mono B8.size)
  clear hb B8 ha1
  by_cases hsw : A1 < A2
  · skip
    have hns := H1.cnseg
    have hsa := H1.csegat
    obtain ⟨mn, en⟩ := H1.mnseg
    obtain ⟨mg, eg⟩ := H1.msegat
    go_wp2_with (with_reducible refine stopC f1.nseg ?_)
    refine ⟨?_⟩
    refine (hns _ B6).mono ?_
    rintro e w7 ⟨rfl, hb⟩
    have B7 := B6.trans (hb.mono B6.size)
    clear hb hns
    rw [if_pos hsw] at hres
    generalize hN : nSeg true l = N at *
    go_wp2
    go_loopw [8] (fun i wr => ∃ k : Nat, k ≤ N ∧ i = .int .i64 k ∧ anyN R2 k = false ∧ Below w.heap.size w wr) (fun i _ => N - (intOf i).toNat)
    case atStart => exact ⟨0, Nat.zero_le _, rfl, rfl, B7⟩
    case round =>
      clear B7 B6
      obtain ⟨k, hk, rfl, ho, hB⟩ := hrel
      rcases Nat.lt_or_ge k N with hlt | hge
      · have hlt' : (k : Int) < (N : Int) := by omega
        go_wp2_with (with_reducible refine stopC f1.segat ?_)
        refine ⟨?_⟩
        refine (hsa k _ hlt hB).mono ?_
        rintro e w8 ⟨rfl, hb⟩
        have B8 := hB.trans (hb.mono hB.size)
        clear hb hB
        have hris := hr2 k hlt w8 B8
        generalize sgv l k = sg at *
        go_wp2_with (go_at_call 136; refine JR.StopM.out ?_)
        refine ⟨?_⟩
        refine hris.mono ?_
        rintro e w9 ⟨rfl, hb⟩
        have B9 := B8.trans (hb.mono B8.size)
        clear hb B8 hris
        have hstep : anyN R2 (k + 1) = (anyN R2 k || R2 k) := rfl
        cases hr : R2 k with
        | true =>
          have hz := anyN_hit hlt hr
          go_wp2
          go_ret
          exact ⟨by rw [← hres, hz]; rfl, B9⟩
        | false =>
          rw [ho, hr] at hstep
          go_wp2
          go_roundw
          case rel => exact ⟨k + 1, hlt, by go_num, hstep, B9⟩
          case measure => simp [intOf]; omega
      · obtain rfl : k = N := by omega
        go_wp2
        go_ret
        exact ⟨by rw [← hres, ho]; rfl, hB⟩
  · skip
    have hns := H2.cnseg
    have hsa := H2.csegat
    obtain ⟨mn, en⟩ := H2.mnseg
    obtain ⟨mg, eg⟩ := H2.msegat
    go_wp2_with (with_reducible refine stopC f2.nseg ?_)
    refine ⟨?_⟩
    refine (hns _ B6).mono ?_
    rintro e w7 ⟨rfl, hb⟩
    have B7 := B6.trans (hb.mono B6.size)
    clear hb hns
    rw [if_neg (by omega)] at hres
    generalize hN : nSeg true m = N at *
    go_wp2
    go_loopw [8] (fun i wr => ∃ k : Nat, k ≤ N ∧ i = .int .i64 k ∧ anyN R1 k = false ∧ Below w.heap.size w wr) (fun i _ => N - (intOf i).toNat)
    case atStart => exact ⟨0, Nat.zero_le _, rfl, rfl, B7⟩
    case round =>
      clear B7 B6
      obtain ⟨k, hk, rfl, ho, hB⟩ := hrel
      rcases Nat.lt_or_ge k N with hlt | hge
      · have hlt' : (k : Int) < (N : Int) := by omega
        go_wp2_with (with_reducible refine stopC f2.segat ?_)
        refine ⟨?_⟩
        refine (hsa k _ hlt hB).mono ?_
        rintro e w8 ⟨rfl, hb⟩
        have B8 := hB.trans (hb.mono hB.size)
        clear hb hB
        have hris := hr1 k hlt w8 B8
        generalize sgv m k = sg at *
        go_wp2_with (go_at_call 136; refine JR.StopM.out ?_)
        refine ⟨?_⟩
        refine hris.mono ?_
        rintro e w9 ⟨rfl, hb⟩
        have B9 := B8.trans (hb.mono B8.size)
        clear hb B8 hris
        have hstep : anyN R1 (k + 1) = (anyN R1 k || R1 k) := rfl
        cases hr : R1 k with
        | true =>
          have hz := anyN_hit hlt hr
          go_wp2
          go_ret
          exact ⟨by rw [← hres, hz]; rfl, B9⟩
        | false =>
          rw [ho, hr] at hstep
          go_wp2
          go_roundw
          case rel => exact ⟨k + 1, hlt, by go_num, hstep, B9⟩
          case measure => simp [intOf]; omega
      · obtain rfl : k = N := by omega
        go_wp2
        go_ret
        exact ⟨by rw [← hres, ho]; rfl, hB⟩
end Go.Proofs.YtlpibeloedfbdaaGreat
set_option linter.unusedSimpArgs false
set_option linter.unusedVariables false
/-! ringIntersectsLine, what stands on the edge counted. -/
namespace Go.Proofs.YtlpibeloedfbdaaGreat
open Go.RowKit PF JR
set_option maxRecDepth 100000 in
set_option maxHeartbeats 8000000 in
theorem ril_c {f : RF} {T : TypeId} {y : Value} {l : List (Int × Int)} {w : World} (H : RingM f T y true l w) (hbl : BdR (ppB true l)) (K : Nat) (m : List (Int × Int)) (hm12 : m.length ≤ 12) (hm2 : 2 ≤ m.length) (hmb : ∀ p ∈ m, Bnd p) (lo c : Nat) (S : SkP K false m 83 lo w.heap.size c w) (P R : Nat → Bool)
    (hp : ∀ k, k < m.length → ∀ u, Below w.heap.size w u → Calls Tryz.prog 107 #[.iface T y, .agg #[fl (fb (at' m k).1), fl (fb (at' m k).2)], .bool true] u fun e u' => ∃ x : Int, e = .returned (.agg #[.bool (P k), .int .i64 x]) ∧ Below u.heap.size u u')
    (hr : ∀ i, i < m.length - 1 → ∀ u, Below w.heap.size w u → Calls Tryz.prog 136 #[.iface T y, sgv m i, .bool true] u fun e w' => e = .returned (.bool (R i)) ∧ Below u.heap.size u w') :
    Calls Tryz.prog 132 #[.iface T y, .pointer (some ⟨c, 0, none⟩), .bool true] w fun e w' => e = .returned (.bool (decide ((ppB true l).1 ≤ (ppB false m).2.2.1 ∧ (ppB false m).1 ≤ (ppB true l).2.2.1 ∧ (ppB true l).2.1 ≤ (ppB false m).2.2.2 ∧ (ppB false m).2.1 ≤ (ppB true l).2.2.2) && (anyN P m.length || anyN R (m.length - 1)))) ∧ Below w.heap.size w w' := by
  obtain ⟨x1, x2, x3, x4⟩ := hbl
  obtain ⟨x5, x6, x7, x8⟩ := ppBF_bd hm2 hmb
  have hrir := fun u => rir_c (fb_rep (ppB true l).1 (by omega)) (fb_rep (ppB true l).2.1 (by omega)) (fb_rep (ppB true l).2.2.1 (by omega)) (fb_rep (ppB true l).2.2.2 (by omega)) (fb_rep (ppB false m).1 (by omega)) (fb_rep (ppB false m).2.1 (by omega)) (fb_rep (ppB false m).2.2.1 (by omega)) (fb_rep (ppB false m).2.2.2 (by omega)) u
  obtain ⟨bm, hbm⟩ : ∃ b, decide ((ppB true l).1 ≤ (ppB false m).2.2.1 ∧ (ppB false m).1 ≤ (ppB true l).2.2.1 ∧ (ppB true l).2.1 ≤ (ppB false m).2.2.2 ∧ (ppB false m).2.1 ≤ (ppB true l).2.2.2) = b := ⟨_, rfl⟩
  rw [hbm] at hrir
  simp only [hbm]
  clear hbm x1 x2 x3 x4 x5 x6 x7 x8
  have hc1 := H.crect
  have he1 := H.cempty
  obtain ⟨mr1, er1⟩ := H.mrect
  obtain ⟨me1, ee1⟩ := H.mempty
  have hc2 := fun u (h : Below w.heap.size w u) => kRect (S.below h)
  have he2 := fun u (h : Below w.heap.size w u) => kEmpty (S.below h) hm2
  have hn2 := fun u (h : Below w.heap.size w u) => kNum (S.below h)
  have hp2 := fun k (hk : k < m.length) u (h : Below w.heap.size w u) => kPoint (S.below h) k hk (by omega)
  have hs2 := fun u (h : Below w.heap.size w u) => nseg_x (S.below h) (by omega) hm2 hmb
  have hg2 := fun k (hk : k < m.length - 1) u (h : Below w.heap.size w u) => sgat_x (S.below h) (by omega) k hk
  rw [show nSeg false m = m.length - 1 from rfl] at hs2
  generalize ga : (Value.agg #[fl (fb (ppB true l).1), fl (fb (ppB true l).2.1), fl (fb (ppB true l).2.2.1), fl (fb (ppB true l).2.2.2)]) = RA at *
  generalize gb : (Value.agg #[fl (fb (ppB false m).1), fl (fb (ppB false m).2.1), fl (fb (ppB false m).2.2.1), fl (fb (ppB false m).2.2.2)]) = RB at *
  clear ga gb
  obtain ⟨n2, hnn2⟩ : ∃ n, m.length - 1 = n := ⟨_, rfl⟩
  obtain ⟨n1, hnn1⟩ : ∃ n, m.length = n := ⟨_, rfl⟩
  rw [hnn2] at hr hs2 hg2
  rw [hnn1] at hp hn2 hp2
  simp only [hnn2]
  simp only [hnn1]
  have hn12 : n1 ≤ 12 := by omega
  have hn22 : n2 ≤ 12 := by omega
  clear hnn2 hnn1 hm12 hm2
  have B0 := Below.refl w.heap.size w
  go_enter Tryz.func132, Tryz.ntmps132
  go_wp2_with (with_reducible refine stopC f.empty ?_)
  refine ⟨?_⟩
  refine (he1 _ B0).mono ?_
  rintro e w1 ⟨rfl, hb⟩
  have B1 := B0.trans (hb.mono B0.size)
  clear hb B0 he1
  go_wp2_with (go_at_call 96; refine JR.StopM.out ?_)
  refine ⟨?_⟩
  refine (he2 _ B1).mono ?_
  rintro e w2 ⟨rfl, hb⟩
  have B2 := B1.trans (hb.mono B1.size)
  clear hb B1 he2
  go_wp2
  refine wp_region_K [] [.val (.iface T y), .val RA, .val (.pointer (some ⟨c, 0, none⟩)), .val (.pointer (some ⟨c, 0, none⟩)), .val (.pointer (some ⟨c, 0, none⟩)), .val RB, .val (.bool bm), .val (.bool (!bm))]
    [[.ini 0], [.frm 0 19], [.ini 1], [.frm 2 21], [.frm 3 22], [.frm 4 23], [.frm 1 20, .frm 5 24], [.frm 6 25]]
    mixed (by kernel_rfl) (by kernel_rfl) (allPre_of ⟨trivial, trivial, trivial, trivial, trivial, trivial, trivial, trivial, trivial⟩)
    ⟨OpOk.quiet rfl ?_, OpOk.call rfl ?_, OpOk.quiet rfl ?_, OpOk.quiet rfl ?_, OpOk.quiet rfl ?_, OpOk.call rfl ?_, OpOk.call rfl ?_, OpOk.quiet rfl ?_, trivial⟩ ?_
  · intro a u _ hf
    simp [facts, Need.fact, Act.eval] at hf
    go_simp
  · intro a u hG hf
    simp [facts, Need.fact, Ent.val, Act.eval] at hf
    refine ⟨f.rect, #[y], by go_simp, (hc1 u (hG.belowX B2 B2.size (by simp))).mono ?_⟩
    rintro e w' ⟨rfl, hb⟩
    exact ⟨_, rfl, hb, rfl⟩
  · intro a u _ hf
    simp [facts, Need.fact, Act.eval] at hf
    go_simp
  · intro a u _ hf
    simp [facts, Need.fact, Ent.val, Act.eval] at hf
    go_simp
  · intro a u _ hf
    simp [facts, Need.fact, Ent.val, Act.eval] at hf
    go_simp
  · intro a u hG hf
    simp [facts, Need.fact, Ent.val, Act.eval] at hf
    refine ⟨_, _, by go_simp, (hc2 u (hG.belowX B2 B2.size (by simp))).mono ?_⟩
    rintro e w' ⟨rfl, hb⟩
    exact ⟨_, rfl, hb, rfl⟩
  · intro a u _ hf
    simp [facts, Need.fact, Ent.val, Act.eval] at hf
    refine ⟨_, _, by go_simp, (hrir u).mono ?_⟩
    rintro e w' ⟨rfl, hb⟩
    exact ⟨_, rfl, hb, rfl⟩
  · intro a u _ hf
    simp [facts, Need.fact, Ent.val, Act.eval] at hf
    go_simp
  intro u lw hw wc hKp hE hI hD
  simp only [allE, Ent.val] at hE
  obtain ⟨u0, u1, u2, u3, u4, u5, u6, u7, -⟩ := hE
  simp only [Nat.reduceAdd] at u0 u1 u2 u3 u4 u5 u6 u7
  simp only [allPut, Act.put, Nat.reduceAdd, u0, u1, u2, u3, u4, u5, u6, u7]
  try simp only [List.setIfInBounds_toArray, List.set_cons_zero, List.set_cons_succ]
  clear hI hD u0 u1 u2 u3 u4 u5 u6 u7 hc1 hc2 hrir
  have B3 := hKp.belowX B2 B2.size (by simp)
  clear hKp B2
  cases bm with
  | false =>
    go_wp2
    go_ret
    exact ⟨rfl, B3⟩
  | true =>
  simp only [Bool.not_true]
  go_wp2_with (go_at_call 134; refine JR.StopM.out ?_)
  refine ⟨?_⟩
  refine (hn2 _ B3).mono ?_
  rintro e w4 ⟨rfl, hb⟩
  have B4 := B3.trans (hb.mono B3.size)
  clear hb B3 hn2
  go_wp2
  go_loopw [8] (fun i wr => ∃ k : Nat, k ≤ n1 ∧ i = .int .i64 k ∧ anyN P k = false ∧ Below w.heap.size w wr) (fun i _ => n1 - (intOf i).toNat)
  case atStart => exact ⟨0, Nat.zero_le _, rfl, rfl, B4⟩
  case round =>
    clear B4
    obtain ⟨k, hk, rfl, ho, hB⟩ := hrel
    rcases Nat.lt_or_ge k n1 with hlt | hge
    · have hlt' : (k : Int) < (n1 : Int) := by omega
      go_wp2_with (go_at_call 135; refine JR.StopM.out ?_)
      refine ⟨?_⟩
      refine (hp2 k hlt _ hB).mono ?_
      rintro e w5 ⟨rfl, hb⟩
      have B5 := hB.trans (hb.mono hB.size)
      clear hb hB
      have hpk := hp k hlt w5 B5
      generalize fb (at' m k).1 = px at *
      generalize fb (at' m k).2 = py at *
      go_wp2_with (go_at_call 107; refine JR.StopM.out ?_)
      refine ⟨?_⟩
      refine hpk.mono ?_
      rintro e w6 ⟨x, rfl, hb⟩
      have B6 := B5.trans (hb.mono B5.size)
      clear hb B5 hpk
      have hfd : (Instr.field 167 (.agg #[.bool (P k), .int .i64 x]) 0).run Tryz.prog w6 = .ok (.bool (P k)) w6 := by kernel_rfl
      have hstep : anyN P (k + 1) = (anyN P k || P k) := rfl
      cases hr' : P k with
      | true =>
        have hz := anyN_hit hlt hr'
        rw [hr'] at hfd
        go_wp2
        go_ret
        exact ⟨by rw [hz]; rfl, B6⟩
      | false =>
        rw [ho, hr'] at hstep
        rw [hr'] at hfd
        go_wp2
        go_roundw
        case rel => exact ⟨k + 1, hlt, by go_num, hstep, B6⟩
        case measure => simp [intOf]; omega
    · obtain rfl : k = n1 := by omega
      go_wp2_with (go_at_call 44; refine JR.StopM.out ?_)
      refine ⟨?_⟩
      refine (hs2 _ hB).mono ?_
      rintro e w5 ⟨rfl, hb⟩
      have B5 := hB.trans (hb.mono hB.size)
      clear hb hB hs2
      go_wp2
      go_loopw [10] (fun i wr => ∃ k : Nat, k ≤ n2 ∧ i = .int .i64 k ∧ anyN R k = false ∧ Below w.heap.size w wr) (fun i _ => n2 - (intOf i).toNat)
      case atStart => exact ⟨0, Nat.zero_le _, rfl, rfl, B5⟩
      case round =>
        clear B5
        obtain ⟨j, hj, rfl, ho2, hB⟩ := hrel
        rcases Nat.lt_or_ge j n2 with hlt | hge2
        · have hlt' : (j : Int) < (n2 : Int) := by omega
          go_wp2_with (go_at_call 45; refine JR.StopM.out ?_)
          refine ⟨?_⟩
          refine (hg2 j hlt _ hB).mono ?_
          rintro e w6 ⟨rfl, hb⟩
          have B6 := hB.trans (hb.mono hB.size)
          clear hb hB
          have hris := hr j hlt w6 B6
          generalize sgv m j = sg at *
          go_wp2_with (go_at_call 136; refine JR.StopM.out ?_)
          refine ⟨?_⟩
          refine hris.mono ?_
          rintro e w7 ⟨rfl, hb⟩
          have B7 := B6.trans (hb.mono B6.size)
          clear hb B6 hris
          have hstep : anyN R (j + 1) = (anyN R j || R j) := rfl
          cases hr' : R j with
          | true =>
            have hz := anyN_hit hlt hr'
            go_wp2
            go_ret
            exact ⟨by simp [ho, hz], B7⟩
          | false =>
            rw [ho2, hr'] at hstep
            go_wp2
            go_roundw
            case rel => exact ⟨j + 1, hlt, by go_num, hstep, B7⟩
            case measure => simp [intOf]; omega
        · obtain rfl : j = n2 := by omega
          go_wp2
          go_ret
          exact ⟨by simp [ho, ho2], hB⟩
end Go.Proofs.YtlpibeloedfbdaaGreat
set_option linter.unusedSimpArgs false
set_option linter.unusedVariables false
/-! Guarded operations within a drawn region (from XTn and XBn). -/
namespace JR
open Go Go.RowKit
theorem wanted_of {ops : Array Oper} {o : Oper} {a : Act} {j t : Nat} {b : Bool} (hg : o.guard = some (j, b)) (hd : (ops[j]?).bind (·.dst) = some t) (hv : a.eval (.tmp t) = .bool b) : Region.wanted o (yielded ops a.tmps) = true := by
  have h : a.tmps[t]? = some (.bool b) := by
    cases hh : a.tmps[t]? with
    | none => simp [Act.eval, hh, undef] at hv
    | some x => simp [Act.eval, hh] at hv; rw [hv]
  have e : ((ops[j]?).bind (·.dst)).bind (a.tmps[·]?) = some (.bool b) := by simp only [hd]; exact h
  have y : yielded ops a.tmps j = some b := by unfold yielded; simp only [e]
  unfold Region.wanted
  simp [hg, y]
section
variable {P : Program} {ops : Array Oper} {Q : Exit → Act → World → Prop} {G : World → Prop} {B0 : Nat} {plan : List Ent} {a0 : Act} {i : Nat} {o : Oper} {ns : List Need}
theorem OpOk.quietG {x : Value} {j t : Nat} {b : Bool} (hg : o.guard = some (j, b)) (hd : (ops[j]?).bind (·.dst) = some t) (hv : ∀ a w, facts plan a0 a w ns → a.eval (.tmp t) = .bool b)
    (h : ∀ a w, G w → facts plan a0 a w ns → (execOp a.eval o).run P w = .ok (.value x) w) :
    OpOk P ops Q G B0 plan a0 i o (.val x) ns := by
  intro a w hG hf
  refine ⟨fun _ => ?_, fun h => by rw [wanted_of hg hd (hv a w hf)] at h; cases h⟩
  unfold Oper.wp
  rw [h a w hG hf]
  exact ⟨x, rfl, rfl, .inl (Ext.refl w)⟩
theorem OpOk.callG {e : Ent} {j t : Nat} {b : Bool} (hg : o.guard = some (j, b)) (hd : (ops[j]?).bind (·.dst) = some t) (hv : ∀ a w, facts plan a0 a w ns → a.eval (.tmp t) = .bool b)
    (h : ∀ a w, G w → facts plan a0 a w ns → ∃ f args, (execOp a.eval o).run P w = .ok (.enter f args) w ∧
    Calls P f args w fun x w' => ∃ v, x = .returned v ∧ Ext w w' ∧ e.E v w.heap.size w'.heap.size a w') :
    OpOk P ops Q G B0 plan a0 i o e ns := by
  intro a w hG hf
  refine ⟨fun _ => ?_, fun h => by rw [wanted_of hg hd (hv a w hf)] at h; cases h⟩
  obtain ⟨f, args, h1, h2⟩ := h a w hG hf
  unfold Oper.wp
  rw [h1, Oper.upon_enter]
  refine h2.mono fun x w' hx => ?_
  obtain ⟨v, rfl, hv, he⟩ := hx
  exact ⟨v, rfl, he, .inl hv⟩
end
section
variable {P : Program} {ops : Array Oper} {Q : Exit → Act → World → Prop} {G : World → Prop} {B0 : Nat} {plan : List Ent} {a0 : Act} {i : Nat} {o : Oper} {ns : List Need}
theorem unwanted_of {ops : Array Oper} {o : Oper} {a : Act} {j t : Nat} {b : Bool} (hg : o.guard = some (j, b)) (hd : (ops[j]?).bind (·.dst) = some t) (hv : a.eval (.tmp t) = .bool (!b)) : Region.wanted o (yielded ops a.tmps) = false := by
  have h : a.tmps[t]? = some (.bool (!b)) := by
    cases hh : a.tmps[t]? with
    | none => simp [Act.eval, hh, undef] at hv
    | some x => simp [Act.eval, hh] at hv; rw [hv]
  have e : ((ops[j]?).bind (·.dst)).bind (a.tmps[·]?) = some (.bool (!b)) := by simp only [hd]; exact h
  have y : yielded ops a.tmps j = some (!b) := by unfold yielded; simp only [e]
  unfold Region.wanted
  simp [hg, y]
/-- an operation that its guard passes over -/
theorem OpOk.skipG {j t : Nat} {b : Bool} (hg : o.guard = some (j, b)) (hd : (ops[j]?).bind (·.dst) = some t) (hv : ∀ a w, facts plan a0 a w ns → a.eval (.tmp t) = .bool (!b)) :
    OpOk P ops Q G B0 plan a0 i o (.val undef) ns := by
  intro a w _ hf
  refine ⟨fun h => absurd h (by rw [unwanted_of hg hd (hv a w hf)]; decide), fun _ => rfl⟩
end
end JR
set_option linter.unusedSimpArgs false
set_option linter.unusedVariables false
/-! ringContainsSegment, the edge not counted as within (printed by gen/li.py). -/
namespace Go.Proofs.YtlpibeloedfbdaaGreat
open Go.RowKit PF JR
theorem entC5 (args : Array Value) (u : World) : (callFunc 149 args).run Tryz.prog u = .ok (.enter 149 args) u := by kernel_rfl
/-- its fifth closure -/
theorem rc5_c (a b c d x y z t : Nat) (q : Bool) (k : Int) (sk fbk : Nat) (u : World)
    (hsis : ∀ u, Calls Tryz.prog 139 #[.agg #[fl x, fl y, fl z, fl t], .agg #[fl a, fl b, fl c, fl d]] u fun e w' => e = .returned (.bool q) ∧ Below u.heap.size u w')
    (hp : u.heap[sk]? = some (.cells #[fl x, fl y, fl z, fl t] 73 (0, 0))) (hf : u.heap[fbk]? = some (.cells #[.bool false] 4 (0, 0))) :
    Calls Tryz.prog 149 #[.agg #[fl a, fl b, fl c, fl d], .int .i64 k, .pointer (some ⟨sk, 0, none⟩), .pointer (some ⟨fbk, 0, none⟩)] u
      fun e u' => e = .returned (.bool (!q)) ∧ u'.heap[fbk]? = some (.cells #[.bool q] 4 (0, 0)) ∧ Keep [fbk] u u' := by
  have st0 := (Blk.nil u).push rfl #[fl a, fl b, fl c, fl d] 73
  have hB1 := st0.hb
  have q0 := st0.cell 0 rfl 0
  have q1 := st0.cell 0 rfl 1
  have q2 := st0.cell 0 rfl 2
  have q3 := st0.cell 0 rfl 3
  have hp1 := (hB1.block sk (lt_of_some hp)).trans hp
  have p0 := cellAt hp1 0
  have p1 := cellAt hp1 1
  have p2 := cellAt hp1 2
  have p3 := cellAt hp1 3
  simp only [List.getElem?_toArray, List.getElem?_cons_zero, List.getElem?_cons_succ] at p0 p1 p2 p3 q0 q1 q2 q3
  go_enter Tryz.func149, Tryz.ntmps149
  go_wp2_with (go_at_call 139; refine JR.StopM.out ?_)
  refine ⟨?_⟩
  refine (hsis _).mono ?_
  rintro e w1 ⟨rfl, hb⟩
  have hB2 := hB1.trans (hb.mono (by simp))
  have hf2 := (hB2.block fbk (lt_of_some hf)).trans hf
  have ff := frozenAt hf2 0
  have c0 := cellAt hf2 0
  simp only [List.getElem?_toArray, List.getElem?_cons_zero] at c0
  have hK2 : Keep [fbk] u w1 := ⟨hB2.os, hB2.tape, hB2.output, hB2.size, fun j hj _ => hB2.block j hj⟩
  clear hb st0 q0 q1 q2 q3 p0 p1 p2 p3 hp1 hB1 hsis
  cases q with
  | true =>
    go_wp2
    go_ret
    rw [setCell_row hf2]
    exact ⟨rfl, by rw [setRow_same hf2]; rfl, hK2.setRow (.inr (by simp))⟩
  | false =>
    go_wp2
    go_ret
    exact ⟨rfl, hf2, hK2⟩
set_option maxRecDepth 100000 in
set_option maxHeartbeats 8000000 in
theorem rcs_c {f : RF} {T : TypeId} {y : Value} {l : List (Int × Int)} {w : World} (H : RingM f T y true l w) (hbx : BdR (ppB true l)) (m : List (Int × Int)) (hmb : ∀ p ∈ m, Bnd p) (i : Nat) (hA hB : Bool) (q : Nat → Bool)
    (hcA : ∀ u, Below w.heap.size w u → Calls Tryz.prog 107 #[.iface T y, .agg #[fl (fb (at' m i).1), fl (fb (at' m i).2)], .bool false] u fun e u' => ∃ x : Int, e = .returned (.agg #[.bool hA, .int .i64 x]) ∧ Below u.heap.size u u')
    (hcB : ∀ u, Below w.heap.size w u → Calls Tryz.prog 107 #[.iface T y, .agg #[fl (fb (nxp m i).1), fl (fb (nxp m i).2)], .bool false] u fun e u' => ∃ x : Int, e = .returned (.agg #[.bool hB, .int .i64 x]) ∧ Below u.heap.size u u')
    (hq : ∀ k, k < nSeg true l → ∀ u, Calls Tryz.prog 139 #[sgv m i, sgv l k] u fun e w' => e = .returned (.bool (q k)) ∧ Below u.heap.size u w')
    (hmiss : ∀ k, k < nSeg true l → hitR l (sgx m i).1 (sgx m i).2.1 (sgx m i).2.2.1 (sgx m i).2.2.2 k = false → q k = false) :
    Calls Tryz.prog 144 #[.iface T y, sgv m i, .bool false] w fun e w' => e = .returned (.bool (inB (ppB true l) (at' m i) && (inB (ppB true l) (nxp m i) && (hA && (decide ((nxp m i).1 = (at' m i).1 ∧ (nxp m i).2 = (at' m i).2) || (hB && (ppV true l || !anyN q (nSeg true l)))))))) ∧ Below w.heap.size w w' := by
  obtain ⟨s1, s2, s3, s4⟩ := sgx_bd hmb i
  obtain ⟨x1, x2, x3, x4⟩ := hbx
  obtain ⟨p1, p2⟩ := at_bnd hmb i
  obtain ⟨p3, p4⟩ : Bnd (nxp m i) := at_bnd hmb _
  have e0 := fb_rep (sgx m i).1 (by omega)
  have e1 := fb_rep (sgx m i).2.1 (by omega)
  have e2 := fb_rep (sgx m i).2.2.1 (by omega)
  have e3 := fb_rep (sgx m i).2.2.2 (by omega)
  have hsr := sgr_x m hmb i
  have hinA := fun u => rcp_c (fb_rep (ppB true l).1 (by omega)) (fb_rep (ppB true l).2.1 (by omega)) (fb_rep (ppB true l).2.2.1 (by omega)) (fb_rep (ppB true l).2.2.2 (by omega)) (fb_rep (at' m i).1 (by omega)) (fb_rep (at' m i).2 (by omega)) u
  have hinB := fun u => rcp_c (fb_rep (ppB true l).1 (by omega)) (fb_rep (ppB true l).2.1 (by omega)) (fb_rep (ppB true l).2.2.1 (by omega)) (fb_rep (ppB true l).2.2.2 (by omega)) (fb_rep (nxp m i).1 (by omega)) (fb_rep (nxp m i).2 (by omega)) u
  obtain ⟨iA, hiA⟩ : ∃ b, inB (ppB true l) (at' m i) = b := ⟨_, rfl⟩
  obtain ⟨iB, hiB⟩ : ∃ b, inB (ppB true l) (nxp m i) = b := ⟨_, rfl⟩
  have hiA' := hiA
  have hiB' := hiB
  unfold inB at hiA' hiB'
  rw [hiA'] at hinA
  rw [hiB'] at hinB
  simp only [hiA, hiB]
  clear hiA hiB hiA' hiB'
  obtain ⟨eq, heq⟩ : ∃ b, decide ((nxp m i).1 = (at' m i).1 ∧ (nxp m i).2 = (at' m i).2) = b := ⟨_, rfl⟩
  have hpe := fun u => eqPt (fb_rep (nxp m i).1 (by omega)) (fb_rep (nxp m i).2 (by omega)) (fb_rep (at' m i).1 (by omega)) (fb_rep (at' m i).2 (by omega)) heq u
  simp only [heq]
  clear heq
  have hrc := H.crect
  have hcv := H.cconv
  have hfind := fun u (hu : Below w.heap.size w u) (cb : Nat) (hcb : w.heap.size ≤ cb) (caps : Array Value) hf hcall => any_findR H 149 caps entC5 e0 e1 e2 e3 u hu cb hcb q hf hcall hmiss
  obtain ⟨mr, er⟩ := H.mrect
  obtain ⟨ms, es⟩ := H.msrch
  obtain ⟨mc, ec⟩ := H.mconv
  have hnl := H.nils
  unfold sgv at hq
  unfold sgv
  obtain ⟨an, han⟩ : ∃ b, anyN q (nSeg true l) = b := ⟨_, rfl⟩
  simp only [han] at hfind
  simp only [han]
  generalize hN : nSeg true l = N at *
  clear hmiss han e0 e1 e2 e3 x1 x2 x3 x4 s1 s2 s3 s4 p1 p2 p3 p4
  generalize ppV true l = cv at *
  generalize fb (ppB true l).1 = b0 at *
  generalize fb (ppB true l).2.1 = b1 at *
  generalize fb (ppB true l).2.2.1 = b2 at *
  generalize fb (ppB true l).2.2.2 = b3 at *
  generalize fb (sgx m i).1 = f0 at *
  generalize fb (sgx m i).2.1 = f1 at *
  generalize fb (sgx m i).2.2.1 = f2 at *
  generalize fb (sgx m i).2.2.2 = f3 at *
  generalize fb (at' m i).1 = t0 at *
  generalize fb (at' m i).2 = t1 at *
  generalize fb (nxp m i).1 = t2 at *
  generalize fb (nxp m i).2 = t3 at *
  have st0 := (Blk.nil w).push rfl #[fl t0, fl t1, fl t2, fl t3] 73
  go_enter Tryz.func144, Tryz.ntmps144
  cases iA with
  | false =>
    go_wp2
    refine wp_region_K [] [.val (.iface T y), .val (.agg #[fl b0, fl b1, fl b2, fl b3]), .val (.pointer (some ⟨w.heap.size, 0, none⟩)), .val (.agg #[fl t0, fl t1]), .val (.bool false), .val (.bool true), .val (.bool true), .val undef, .val undef, .val undef, .val undef, .val undef, .val undef, .val (.bool true)]
      [[.ini 0], [.frm 0 22], [.ini 4], [.frm 2 24], [.frm 1 23, .frm 3 25], [.frm 4 26], [.frm 5 27], [.frm 6 28], [.frm 6 28], [.frm 6 28], [.frm 6 28], [.frm 6 28], [.frm 6 28], [.frm 6 28]]
      mixed (by kernel_rfl) (by kernel_rfl) (allPre_of ⟨trivial, trivial, trivial, trivial, trivial, trivial, trivial, trivial, trivial, trivial, trivial, trivial, trivial, trivial, trivial⟩)
      ⟨OpOk.quiet rfl ?_, OpOk.call rfl ?_, OpOk.quiet rfl ?_, OpOk.quiet rfl ?_, OpOk.call rfl ?_, OpOk.quiet rfl ?_, OpOk.quiet rfl ?_, OpOk.skipG rfl (by kernel_rfl) (fun a w hf => by obtain ⟨h1, -⟩ := hf; exact h1.elim fun _ h => h.elim fun _ h => h), OpOk.skipG rfl (by kernel_rfl) (fun a w hf => by obtain ⟨h1, -⟩ := hf; exact h1.elim fun _ h => h.elim fun _ h => h), OpOk.skipG rfl (by kernel_rfl) (fun a w hf => by obtain ⟨h1, -⟩ := hf; exact h1.elim fun _ h => h.elim fun _ h => h), OpOk.skipG rfl (by kernel_rfl) (fun a w hf => by obtain ⟨h1, -⟩ := hf; exact h1.elim fun _ h => h.elim fun _ h => h), OpOk.skipG rfl (by kernel_rfl) (fun a w hf => by obtain ⟨h1, -⟩ := hf; exact h1.elim fun _ h => h.elim fun _ h => h), OpOk.skipG rfl (by kernel_rfl) (fun a w hf => by obtain ⟨h1, -⟩ := hf; exact h1.elim fun _ h => h.elim fun _ h => h), OpOk.quiet rfl ?_, trivial⟩ ?_
    · intro a u _ hf
      simp [facts, Need.fact, Act.eval] at hf
      go_simp
    · intro a u hG hf
      simp [facts, Need.fact, Ent.val, Act.eval] at hf
      refine ⟨f.rect, #[y], by go_simp, (hrc u (hG.belowX st0.hb st0.hb.size (by simp))).mono ?_⟩
      rintro e w' ⟨rfl, hb⟩
      exact ⟨_, rfl, hb, rfl⟩
    · intro a u _ hf
      simp [facts, Need.fact, Act.eval] at hf
      go_simp
    · intro a u hG hf
      simp [facts, Need.fact, Ent.val, Act.eval] at hf
      have stu := st0.keep hG (fun i x _ => by simp) (fun x hx => by simp at hx)
      have y0 := stu.cell 0 rfl 0
      have y1 := stu.cell 0 rfl 1
      have y2 := stu.cell 0 rfl 2
      have y3 := stu.cell 0 rfl 3
      simp only [List.getElem?_toArray, List.getElem?_cons_zero, List.getElem?_cons_succ] at y0 y1 y2 y3
      go_simp
    · intro a u hG hf
      simp [facts, Need.fact, Ent.val, Act.eval] at hf
      refine ⟨_, _, by go_simp, (hinA u).mono ?_⟩
      rintro e w' ⟨rfl, hb⟩
      exact ⟨_, rfl, hb, rfl⟩
    · intro a u _ hf
      simp [facts, Need.fact, Ent.val, Act.eval] at hf
      go_simp
    · intro a u _ hf
      simp [facts, Need.fact, Ent.val, Act.eval] at hf
      go_simp
    · intro a u _ hf
      simp [facts, Need.fact, Ent.val, Act.eval] at hf
      go_simp
    intro u lw hw wc hKp hE hI hD
    simp only [allE, Ent.val] at hE
    obtain ⟨u0, u1, u2, u3, u4, u5, u6, u7, u8, u9, u10, u11, u12, u13, -⟩ := hE
    simp only [Nat.reduceAdd] at u0 u1 u2 u3 u4 u5 u6 u7 u8 u9 u10 u11 u12 u13
    simp only [allPut, Act.put, Nat.reduceAdd, u0, u1, u2, u3, u4, u5, u6, u7, u8, u9, u10, u11, u12, u13]
    try simp only [List.setIfInBounds_toArray, List.set_cons_zero, List.set_cons_succ]
    clear hI hD u0 u1 u2 u3 u4 u5 u6 u7 u8 u9 u10 u11 u12 u13 hrc hinA hinB
    have st1 := st0.keep hKp (fun i x _ => by simp) (fun x hx => by simp at hx)
    clear hKp st0
    go_wp2
    go_ret
    exact ⟨rfl, st1.hb⟩
  | true =>
  go_wp2
  refine wp_region_K [] [.val (.iface T y), .val (.agg #[fl b0, fl b1, fl b2, fl b3]), .val (.pointer (some ⟨w.heap.size, 0, none⟩)), .val (.agg #[fl t0, fl t1]), .val (.bool true), .val (.bool false), .val (.bool false), .val (.iface T y), .val (.agg #[fl b0, fl b1, fl b2, fl b3]), .val (.pointer (some ⟨w.heap.size, 2, none⟩)), .val (.agg #[fl t2, fl t3]), .val (.bool iB), .val (.bool (!iB)), .val (.bool (!iB))]
    [[.ini 0], [.frm 0 22], [.ini 4], [.frm 2 24], [.frm 1 23, .frm 3 25], [.frm 4 26], [.frm 5 27], [.frm 6 28, .ini 0], [.frm 6 28, .frm 7 29], [.frm 6 28, .ini 4], [.frm 6 28, .frm 9 31], [.frm 6 28, .frm 8 30, .frm 10 32], [.frm 6 28, .frm 11 33], [.frm 6 28, .frm 12 34]]
    mixed (by kernel_rfl) (by kernel_rfl) (allPre_of ⟨trivial, trivial, trivial, trivial, trivial, trivial, trivial, trivial, trivial, trivial, trivial, trivial, trivial, trivial, trivial⟩)
    ⟨OpOk.quiet rfl ?_, OpOk.call rfl ?_, OpOk.quiet rfl ?_, OpOk.quiet rfl ?_, OpOk.call rfl ?_, OpOk.quiet rfl ?_, OpOk.quiet rfl ?_, OpOk.quietG rfl (by kernel_rfl) (fun a w hf => by obtain ⟨h1, -⟩ := hf; exact h1.elim fun _ h => h.elim fun _ h => h) ?_, OpOk.callG rfl (by kernel_rfl) (fun a w hf => by obtain ⟨h1, -⟩ := hf; exact h1.elim fun _ h => h.elim fun _ h => h) ?_, OpOk.quietG rfl (by kernel_rfl) (fun a w hf => by obtain ⟨h1, -⟩ := hf; exact h1.elim fun _ h => h.elim fun _ h => h) ?_, OpOk.quietG rfl (by kernel_rfl) (fun a w hf => by obtain ⟨h1, -⟩ := hf; exact h1.elim fun _ h => h.elim fun _ h => h) ?_, OpOk.callG rfl (by kernel_rfl) (fun a w hf => by obtain ⟨h1, -⟩ := hf; exact h1.elim fun _ h => h.elim fun _ h => h) ?_, OpOk.quietG rfl (by kernel_rfl) (fun a w hf => by obtain ⟨h1, -⟩ := hf; exact h1.elim fun _ h => h.elim fun _ h => h) ?_, OpOk.quiet rfl ?_, trivial⟩ ?_
  · intro a u _ hf
    simp [facts, Need.fact, Act.eval] at hf
    go_simp
  · intro a u hG hf
    simp [facts, Need.fact, Ent.val, Act.eval] at hf
    refine ⟨f.rect, #[y], by go_simp, (hrc u (hG.belowX st0.hb st0.hb.size (by simp))).mono ?_⟩
    rintro e w' ⟨rfl, hb⟩
    exact ⟨_, rfl, hb, rfl⟩
  · intro a u _ hf
    simp [facts, Need.fact, Act.eval] at hf
    go_simp
  · intro a u hG hf
    simp [facts, Need.fact, Ent.val, Act.eval] at hf
    have stu := st0.keep hG (fun i x _ => by simp) (fun x hx => by simp at hx)
    have y0 := stu.cell 0 rfl 0
    have y1 := stu.cell 0 rfl 1
    have y2 := stu.cell 0 rfl 2
    have y3 := stu.cell 0 rfl 3
    simp only [List.getElem?_toArray, List.getElem?_cons_zero, List.getElem?_cons_succ] at y0 y1 y2 y3
    go_simp
  · intro a u hG hf
    simp [facts, Need.fact, Ent.val, Act.eval] at hf
    refine ⟨_, _, by go_simp, (hinA u).mono ?_⟩
    rintro e w' ⟨rfl, hb⟩
    exact ⟨_, rfl, hb, rfl⟩
  · intro a u _ hf
    simp [facts, Need.fact, Ent.val, Act.eval] at hf
    go_simp
  · intro a u _ hf
    simp [facts, Need.fact, Ent.val, Act.eval] at hf
    go_simp
  · intro a u _ hf
    simp [facts, Need.fact, Ent.val, Act.eval] at hf
    go_simp
  · intro a u hG hf
    simp [facts, Need.fact, Ent.val, Act.eval] at hf
    refine ⟨f.rect, #[y], by go_simp, (hrc u (hG.belowX st0.hb st0.hb.size (by simp))).mono ?_⟩
    rintro e w' ⟨rfl, hb⟩
    exact ⟨_, rfl, hb, rfl⟩
  · intro a u _ hf
    simp [facts, Need.fact, Ent.val, Act.eval] at hf
    go_simp
  · intro a u hG hf
    simp [facts, Need.fact, Ent.val, Act.eval] at hf
    have stu := st0.keep hG (fun i x _ => by simp) (fun x hx => by simp at hx)
    have y0 := stu.cell 0 rfl 0
    have y1 := stu.cell 0 rfl 1
    have y2 := stu.cell 0 rfl 2
    have y3 := stu.cell 0 rfl 3
    simp only [List.getElem?_toArray, List.getElem?_cons_zero, List.getElem?_cons_succ] at y0 y1 y2 y3
    go_simp
  · intro a u hG hf
    simp [facts, Need.fact, Ent.val, Act.eval] at hf
    refine ⟨_, _, by go_simp, (hinB u).mono ?_⟩
    rintro e w' ⟨rfl, hb⟩
    exact ⟨_, rfl, hb, rfl⟩
  · intro a u _ hf
    simp [facts, Need.fact, Ent.val, Act.eval] at hf
    go_simp
  · intro a u _ hf
    simp [facts, Need.fact, Ent.val, Act.eval] at hf
    go_simp
  intro u lw hw wc hKp hE hI hD
  simp only [allE, Ent.val] at hE
  obtain ⟨u0, u1, u2, u3, u4, u5, u6, u7, u8, u9, u10, u11, u12, u13, -⟩ := hE
  simp only [Nat.reduceAdd] at u0 u1 u2 u3 u4 u5 u6 u7 u8 u9 u10 u11 u12 u13
  simp only [allPut, Act.put, Nat.reduceAdd, u0, u1, u2, u3, u4, u5, u6, u7, u8, u9, u10, u11, u12, u13]
  try simp only [List.setIfInBounds_toArray, List.set_cons_zero, List.set_cons_succ]
  clear hI hD u0 u1 u2 u3 u4 u5 u6 u7 u8 u9 u10 u11 u12 u13 hrc hinA hinB
  have st1 := st0.keep hKp (fun i x _ => by simp) (fun x hx => by simp at hx)
  clear hKp st0
  cases iB with
  | false =>
    go_wp2
    go_ret
    exact ⟨rfl, st1.hb⟩
  | true =>
  simp only [Bool.not_true]
  have z0 := st1.cell 0 rfl 0
  have z1 := st1.cell 0 rfl 1
  have z2 := st1.cell 0 rfl 2
  have z3 := st1.cell 0 rfl 3
  simp only [List.getElem?_toArray, List.getElem?_cons_zero, List.getElem?_cons_succ] at z0 z1 z2 z3
  go_wp2_with (go_at_call 107; refine JR.StopM.out ?_)
  refine ⟨?_⟩
  refine (hcA _ st1.hb).mono ?_
  rintro e w2 ⟨xa, rfl, hb⟩
  have st2 := (st1.ext hb).push (b := w2.heap.size) rfl #[.bool hA, .int .i64 xa] 167
  have lt2 := (st1.ext hb).lt 0 rfl
  clear hb st1 z0 z1 z2 z3 hcA
  cases hA with
  | false =>
    go_wp2
    go_ret
    exact ⟨rfl, st2.hb⟩
  | true =>
  have z0 := st2.cell 1 rfl 0
  have z1 := st2.cell 1 rfl 1
  have z2 := st2.cell 1 rfl 2
  have z3 := st2.cell 1 rfl 3
  simp only [List.getElem?_toArray, List.getElem?_cons_zero, List.getElem?_cons_succ] at z0 z1 z2 z3
  cases eq with
  | true =>
    go_wp2
    go_ret
    exact ⟨rfl, st2.hb⟩
  | false =>
  go_wp2_with (go_at_call 107; refine JR.StopM.out ?_)
  refine ⟨?_⟩
  refine (hcB _ st2.hb).mono ?_
  rintro e w3 ⟨xb, rfl, hb⟩
  have st3 := (st2.ext hb).push (b := w3.heap.size) rfl #[.bool hB, .int .i64 xb] 167
  have lt3 := (st2.ext hb).lt 1 rfl
  clear hb st2 z0 z1 z2 z3 hcB lt2
  cases hB with
  | false =>
    go_wp2
    go_ret
    exact ⟨rfl, st3.hb⟩
  | true =>
  go_wp2_with (with_reducible refine stopC f.conv ?_)
  refine ⟨?_⟩
  refine (hcv _ st3.hb).mono ?_
  rintro e w4 ⟨rfl, hb⟩
  have st4 := st3.ext hb
  clear hb st3 hcv
  cases cv with
  | true =>
    go_wp2
    go_ret
    exact ⟨rfl, st4.hb⟩
  | false =>
  have st5 := st4.push (b := w4.heap.size) rfl #[.bool false] 4
  have lt5 := st4.lt 2 rfl
  clear lt3 hpe
  go_wp2
  have BW := st5.hb
  have h4 := st4.hb.size
  clear st4
  generalize hW : w4.alloc (.cells #[.bool false] 4) = W at *
  have r0 := st5.known 3 _ rfl
  have rc := st5.known 0 _ rfl
  clear st5 hW
  generalize ho9 : w4.heap.size = o9 at *
  refine wp_region_T [o9] [.val (.iface T y), .val (.agg #[fl t0, fl t1, fl t2, fl t3]), .val (.agg #[fl f0, fl f1, fl f2, fl f3]),
      .val (.func (.func 149) #[] #[.pointer (some ⟨w.heap.size, 0, none⟩), .pointer (some ⟨o9, 0, none⟩)]),
      .val (.func (.method "Search") #[.iface T y] #[]), .val (.func (.method "Search") #[.iface T y] #[]), .val (.iface T y),
      .fin W (fun lo hi u => u.heap[o9]? = some (.cells #[.bool an] 4 (0, 0))) (fun lo hi u u' _ _ hk h1 => (hk o9 (.inl (lt_of_some rc))).trans h1)]
    [[.ini 0], [.ini 4], [.frm 1 225], [.ini 4, .ini 21], [.frm 0 224], [.frm 4 228], [.frm 0 224], [.til 7, .frm 6 230, .frm 2 226, .frm 3 227]]
    mixed (by kernel_rfl) (by kernel_rfl) (allPre_of ⟨trivial, trivial, trivial, trivial, trivial, trivial, trivial, (Below.refl _ W).drew, trivial⟩)
    ⟨OpOk.quiet rfl ?_, OpOk.quiet rfl ?_, OpOk.call rfl ?_, OpOk.quiet rfl ?_, OpOk.quiet rfl ?_, OpOk.quiet rfl ?_, OpOk.quiet rfl ?_,
      OpOk.fin rfl ⟨.inr (still_val _), .inr (still_val _), .inr (still_val _), .inr (still_val _), .inr (still_val _), .inr (still_val _), .inr (still_val _), .inl rfl, trivial⟩ (fun a u hf => hf.1) ?_, trivial⟩ ?_
  · intro a u _ hf
    simp [facts, Need.fact, Act.eval] at hf
    go_simp
  · intro a u hG hf
    simp [facts, Need.fact, Act.eval] at hf
    have hrow := (hG.block w.heap.size (lt_of_some r0) (by simp; omega)).trans r0
    have y0 := cellAt hrow 0
    have y1 := cellAt hrow 1
    have y2 := cellAt hrow 2
    have y3 := cellAt hrow 3
    simp only [List.getElem?_toArray, List.getElem?_cons_zero, List.getElem?_cons_succ] at y0 y1 y2 y3
    go_simp
  · intro a u hG hf
    simp [facts, Need.fact, Ent.val, Act.eval] at hf
    refine ⟨_, _, by go_simp, (hsr u).mono ?_⟩
    rintro e w' ⟨rfl, hb⟩
    exact ⟨_, rfl, hb, rfl⟩
  · intro a u _ hf
    simp [facts, Need.fact, Act.eval] at hf
    go_simp
  · intro a u _ hf
    simp [facts, Need.fact, Ent.val, Act.eval] at hf
    go_simp
  · intro a u _ hf
    simp [facts, Need.fact, Ent.val, Act.eval] at hf
    go_simp
  · intro a u _ hf
    simp [facts, Need.fact, Ent.val, Act.eval] at hf
    go_simp
  · intro a u hBu hf
    obtain ⟨-, hf⟩ := hf
    simp [facts, Need.fact, Ent.val, Act.eval] at hf
    refine ⟨_, _, by go_simp, (hfind u (BW.trans (hBu.mono BW.size)) o9 (by omega) #[.pointer (some ⟨w.heap.size, 0, none⟩), .pointer (some ⟨o9, 0, none⟩)] ((hBu.block _ (lt_of_some rc)).trans rc) ?_).mono ?_⟩
    · intro k z hk hKz hz
      have g0 := (hBu.block _ (lt_of_some r0)).trans r0
      exact rc5_c _ _ _ _ t0 t1 t2 t3 (q k) k w.heap.size o9 z (hq k hk) ((hKz.block _ (lt_of_some g0) (by simp; omega)).trans g0) hz
    rintro e w' ⟨rfl, hK2, h1⟩
    refine ⟨_, rfl, hK2.size, ⟨hK2.os.trans hBu.os, hK2.tape.trans hBu.tape, hK2.output.trans hBu.output, Nat.le_trans hBu.size hK2.size, fun j hj hx => (hK2.block j (Nat.lt_of_lt_of_le hj hBu.size) hx).trans (hBu.block j hj)⟩, fun j g1 g2 => hK2.block j g2 (by have := lt_of_some rc; simp; omega), h1⟩
  intro u lw hw wc hKp hE hI hD
  simp only [allE, Ent.val, Ent.fin] at hE
  obtain ⟨u0, u1, u2, u3, u4, u5, u6, ⟨g1, g2, g3⟩, -⟩ := hE
  simp only [Nat.reduceAdd] at u0 u1 u2 u3 u4 u5 u6 g2 g3
  simp only [allPut, Act.put, Nat.reduceAdd, u0, u1, u2, u3, u4, u5, u6]
  try simp only [List.setIfInBounds_toArray, List.set_cons_zero, List.set_cons_succ]
  clear hI hD u0 u1 u2 u3 u4 u5 u6 hfind hq hsr
  have c0 := cellAt g3 0
  simp only [List.getElem?_toArray, List.getElem?_cons_zero] at c0
  have hfin := hKp.belowX BW BW.size (by simp; omega)
  go_wp2
  go_ret
  exact ⟨by simp, hfin⟩
end Go.Proofs.YtlpibeloedfbdaaGreat
set_option linter.unusedSimpArgs false
set_option linter.unusedVariables false
/-! ringContainsRing, the edge not counted as within. -/
namespace PF
/-- all of the first n -/
def allN (f : Nat → Bool) (n : Nat) : Bool := !anyN (fun k => !f k) n
theorem allN_no {f : Nat → Bool} {n k : Nat} (hk : k < n) (h : f k = false) : allN f n = false := by
  unfold allN
  rw [anyN_hit hk (by rw [h]; rfl)]
  rfl
end PF
namespace Go.Proofs.YtlpibeloedfbdaaGreat
open Go.RowKit PF JR
set_option maxRecDepth 100000 in
set_option maxHeartbeats 8000000 in
theorem rcr2_c {f1 f2 : RF} {T1 T2 : TypeId} {y1 y2 : Value} {cl : Bool} {l m : List (Int × Int)} {w : World} (H1 : RingM f1 T1 y1 true l w) (H2 : RingM f2 T2 y2 cl m w) (hbl : BdR (ppB true l)) (hbm : BdR (ppB cl m)) (P R : Nat → Bool)
    (hp : ∀ k, k < m.length → ∀ u, Below w.heap.size w u → Calls Tryz.prog 107 #[.iface T1 y1, .agg #[fl (fb (at' m k).1), fl (fb (at' m k).2)], .bool false] u fun e u' => ∃ x : Int, e = .returned (.agg #[.bool (P k), .int .i64 x]) ∧ Below u.heap.size u u')
    (hr : ∀ i, i < nSeg cl m → ∀ u, Below w.heap.size w u → Calls Tryz.prog 144 #[.iface T1 y1, sgv m i, .bool false] u fun e w' => e = .returned (.bool (R i)) ∧ Below u.heap.size u w') :
    Calls Tryz.prog 142 #[.iface T1 y1, .iface T2 y2, .bool false] w fun e w' => e = .returned (.bool (decide ((ppB true l).1 ≤ (ppB cl m).1 ∧ (ppB cl m).2.2.1 ≤ (ppB true l).2.2.1 ∧ (ppB true l).2.1 ≤ (ppB cl m).2.1 ∧ (ppB cl m).2.2.2 ≤ (ppB true l).2.2.2) && (if ppV true l = true then allN P m.length else allN R (nSeg cl m)))) ∧ Below w.heap.size w w' := by
  obtain ⟨x1, x2, x3, x4⟩ := hbl
  obtain ⟨x5, x6, x7, x8⟩ := hbm
  have hrir := fun u => rcr_c (fb_rep (ppB true l).1 (by omega)) (fb_rep (ppB true l).2.1 (by omega)) (fb_rep (ppB true l).2.2.1 (by omega)) (fb_rep (ppB true l).2.2.2 (by omega)) (fb_rep (ppB cl m).1 (by omega)) (fb_rep (ppB cl m).2.1 (by omega)) (fb_rep (ppB cl m).2.2.1 (by omega)) (fb_rep (ppB cl m).2.2.2 (by omega)) u
  obtain ⟨bm, hbm⟩ : ∃ b, decide ((ppB true l).1 ≤ (ppB cl m).1 ∧ (ppB cl m).2.2.1 ≤ (ppB true l).2.2.1 ∧ (ppB true l).2.1 ≤ (ppB cl m).2.1 ∧ (ppB cl m).2.2.2 ≤ (ppB true l).2.2.2) = b := ⟨_, rfl⟩
  rw [hbm] at hrir
  simp only [hbm]
  clear hbm x1 x2 x3 x4 x5 x6 x7 x8
  obtain ⟨res, hres⟩ : ∃ r, (if ppV true l = true then allN P m.length else allN R (nSeg cl m)) = r := ⟨_, rfl⟩
  simp only [hres]
  have hc1 := H1.crect
  have hc2 := H2.crect
  have he1 := H1.cempty
  have he2 := H2.cempty
  have hn2 := H2.cnpts
  have hp2 := H2.cptat
  have hs2 := H2.cnseg
  have hg2 := H2.csegat
  have hcv := H1.cconv
  have hNm := nseg_lenA cl m
  have hm12 := H2.len
  obtain ⟨mr1, er1⟩ := H1.mrect
  obtain ⟨mr2, er2⟩ := H2.mrect
  obtain ⟨me1, ee1⟩ := H1.mempty
  obtain ⟨me2, ee2⟩ := H2.mempty
  obtain ⟨mn2, en2⟩ := H2.mnpts
  obtain ⟨mp2, ep2⟩ := H2.mptat
  obtain ⟨ms2, es2⟩ := H2.mnseg
  obtain ⟨mg2, eg2⟩ := H2.msegat
  obtain ⟨mc1, ec1⟩ := H1.mconv
  generalize ga : (Value.agg #[fl (fb (ppB true l).1), fl (fb (ppB true l).2.1), fl (fb (ppB true l).2.2.1), fl (fb (ppB true l).2.2.2)]) = RA at *
  generalize gb : (Value.agg #[fl (fb (ppB cl m).1), fl (fb (ppB cl m).2.1), fl (fb (ppB cl m).2.2.1), fl (fb (ppB cl m).2.2.2)]) = RB at *
  clear ga gb
  generalize ppV true l = cv at *
  generalize nSeg cl m = N at *
  generalize m.length = n1 at *
  have hd16 : ¬ (n1 : Int) ≥ 16 := by omega
  have hd16' := decide_eq_false hd16
  have B0 := Below.refl w.heap.size w
  go_enter Tryz.func142, Tryz.ntmps142
  go_wp2_with (with_reducible refine stopC f1.empty ?_)
  refine ⟨?_⟩
  refine (he1 _ B0).mono ?_
  rintro e w1 ⟨rfl, hb⟩
  have B1 := B0.trans (hb.mono B0.size)
  clear hb B0 he1
  go_wp2_with (with_reducible refine stopC f2.empty ?_)
  refine ⟨?_⟩
  refine (he2 _ B1).mono ?_
  rintro e w2 ⟨rfl, hb⟩
  have B2 := B1.trans (hb.mono B1.size)
  clear hb B1 he2
  go_wp2_with (with_reducible refine stopC f2.npts ?_)
  refine ⟨?_⟩
  refine (hn2 _ B2).mono ?_
  rintro e w3 ⟨rfl, hb⟩
  have B3 := B2.trans (hb.mono B2.size)
  clear hb B2
  go_wp2_with (with_reducible refine stopC f1.rect ?_)
  refine ⟨?_⟩
  refine (hc1 _ B3).mono ?_
  rintro e w4 ⟨rfl, hb⟩
  have B4 := B3.trans (hb.mono B3.size)
  clear hb B3 hc1
  go_wp2_with (with_reducible refine stopC f2.rect ?_)
  refine ⟨?_⟩
  refine (hc2 _ B4).mono ?_
  rintro e w5 ⟨rfl, hb⟩
  have B5 := B4.trans (hb.mono B4.size)
  clear hb B4 hc2
  go_wp2_with (go_at_call 24; refine JR.StopM.out ?_)
  refine ⟨?_⟩
  refine (hrir _).mono ?_
  rintro e w6 ⟨rfl, hb⟩
  have B6 := B5.trans (hb.mono B5.size)
  clear hb B5 hrir
  cases bm with
  | false =>
    go_wp2
    go_ret
    exact ⟨rfl, B6⟩
  | true =>
  go_wp2_with (with_reducible refine stopC f1.conv ?_)
  refine ⟨?_⟩
  refine (hcv _ B6).mono ?_
  rintro e w7 ⟨rfl, hb⟩
  have B7 := B6.trans (hb.mono B6.size)
  clear hb B6 hcv
  cases cv with
  | true =>
    rw [if_pos rfl] at hres
    go_wp2_with (with_reducible refine stopC f2.npts ?_)
    refine ⟨?_⟩
    refine (hn2 _ B7).mono ?_
    rintro e w8 ⟨rfl, hb⟩
    have B8 := B7.trans (hb.mono B7.size)
    clear hb B7
    go_wp2
    go_loopw [8] (fun i wr => ∃ k : Nat, k ≤ n1 ∧ i = .int .i64 k ∧ anyN (fun k => !P k) k = false ∧ Below w.heap.size w wr) (fun i _ => n1 - (intOf i).toNat)
    case atStart => exact ⟨0, Nat.zero_le _, rfl, rfl, B8⟩
    case round =>
      clear B8
      obtain ⟨k, hk, rfl, ho, hB⟩ := hrel
      rcases Nat.lt_or_ge k n1 with hlt | hge
      · have hlt' : (k : Int) < (n1 : Int) := by omega
        go_wp2_with (with_reducible refine stopC f2.ptat ?_)
        refine ⟨?_⟩
        refine (hp2 k _ hlt hB).mono ?_
        rintro e w9 ⟨rfl, hb⟩
        have B9 := hB.trans (hb.mono hB.size)
        clear hb hB
        have hpk := hp k hlt w9 B9
        generalize fb (at' m k).1 = px at *
        generalize fb (at' m k).2 = py at *
        go_wp2_with (go_at_call 107; refine JR.StopM.out ?_)
        refine ⟨?_⟩
        refine hpk.mono ?_
        rintro e w10 ⟨x, rfl, hb⟩
        have B10 := B9.trans (hb.mono B9.size)
        clear hb B9 hpk
        have hfd : (Instr.field 167 (.agg #[.bool (P k), .int .i64 x]) 0).run Tryz.prog w10 = .ok (.bool (P k)) w10 := by kernel_rfl
        have hstep : anyN (fun k => !P k) (k + 1) = (anyN (fun k => !P k) k || !P k) := rfl
        cases hr' : P k with
        | false =>
          have hz := allN_no hlt hr'
          rw [hr'] at hfd
          go_wp2
          go_ret
          exact ⟨by rw [← hres, hz]; rfl, B10⟩
        | true =>
          rw [ho, hr'] at hstep
          rw [hr'] at hfd
          go_wp2
          go_roundw
          case rel => exact ⟨k + 1, hlt, by go_num, hstep, B10⟩
          case measure => simp [intOf]; omega
      · obtain rfl : k = n1 := by omega
        have hz : allN P k = true := by unfold allN; rw [ho]; rfl
        go_wp2
        go_ret
        exact ⟨by rw [← hres, hz]; rfl, hB⟩
  | false =>
    rw [if_neg (by simp)] at hres
    go_wp2_with (with_reducible refine stopC f2.nseg ?_)
    refine ⟨?_⟩
    refine (hs2 _ B7).mono ?_
    rintro e w8 ⟨rfl, hb⟩
    have B8 := B7.trans (hb.mono B7.size)
    clear hb B7
    go_wp2
    go_loopw [10] (fun i wr => ∃ k : Nat, k ≤ N ∧ i = .int .i64 k ∧ anyN (fun k => !R k) k = false ∧ Below w.heap.size w wr) (fun i _ => N - (intOf i).toNat)
    case atStart => exact ⟨0, Nat.zero_le _, rfl, rfl, B8⟩
    case round =>
      clear B8
      obtain ⟨k, hk, rfl, ho, hB⟩ := hrel
      rcases Nat.lt_or_ge k N with hlt | hge
      · have hlt' : (k : Int) < (N : Int) := by omega
        go_wp2_with (with_reducible refine stopC f2.segat ?_)
        refine ⟨?_⟩
        refine (hg2 k _ hlt hB).mono ?_
        rintro e w9 ⟨rfl, hb⟩
        have B9 := hB.trans (hb.mono hB.size)
        clear hb hB
        have hrk := hr k hlt w9 B9
        generalize sgv m k = sg at *
        go_wp2_with (go_at_call 144; refine JR.StopM.out ?_)
        refine ⟨?_⟩
        refine hrk.mono ?_
        rintro e w10 ⟨rfl, hb⟩
        have B10 := B9.trans (hb.mono B9.size)
        clear hb B9 hrk
        have hstep : anyN (fun k => !R k) (k + 1) = (anyN (fun k => !R k) k || !R k) := rfl
        cases hr' : R k with
        | false =>
          have hz := allN_no hlt hr'
          go_wp2
          go_ret
          exact ⟨by rw [← hres, hz]; rfl, B10⟩
        | true =>
          rw [ho, hr'] at hstep
          go_wp2
          go_roundw
          case rel => exact ⟨k + 1, hlt, by go_num, hstep, B10⟩
          case measure => simp [intOf]; omega
      · obtain rfl : k = N := by omega
        have hz : allN R k = true := by unfold allN; rw [ho]; rfl
        go_wp2
        go_ret
        exact ⟨by rw [← hres, hz]; rfl, hB⟩
end Go.Proofs.YtlpibeloedfbdaaGreat
