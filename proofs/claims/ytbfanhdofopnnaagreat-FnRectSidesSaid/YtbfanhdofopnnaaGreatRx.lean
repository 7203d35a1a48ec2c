import Derived.Test.YtbfanhdofopnnaaGreatQR
import Derived.Test.YtbfanhdofopnnaaGreatRa
import Derived.Test.YtbfanhdofopnnaaGreatVn
import Derived.Test.YtbfanhdofopnnaaGreatVr
import Derived.Test.YtbfanhdofopnnaaGreatIv
import Derived.Test.YtbfanhdofopnnaaGreatQY
import Derived.Test.YtbfanhdofopnnaaGreatAwake
import Derived.Test.YtbfanhdofopnnaaGreatQM
set_option linter.unusedSimpArgs false
set_option linter.unusedVariables false
/-! FnRectSides: the walk (printed by gen/rw.py). -/
namespace Go.Proofs.YtbfanhdofopnnaaGreat
open Go.RowKit PF JR
theorem saF3R (x0 x1 x2 x3 x4 x5 x6 x7 : Value) (u : World) : (Instr.field 61 (.agg #[x0, x1, x2, x3, x4, x5, x6, x7]) 3).run Tryz.prog u = .ok x3 u := by kernel_rfl
theorem raF0R (x0 x1 x2 x3 x4 x5 x6 x7 x8 x9 x10 x11 x12 : Value) (u : World) : (Instr.field 56 (.agg #[x0, x1, x2, x3, x4, x5, x6, x7, x8, x9, x10, x11, x12]) 0).run Tryz.prog u = .ok x0 u := by kernel_rfl
theorem wrapAddR {k k1 : Nat} (h : k + 1 = k1) (hk : k ≤ 1000) : IntKind.i64.wrap ((k : Int) + 1) = (k1 : Int) := by
  subst h
  unfold IntKind.wrap
  simp [IntKind.bits, IntKind.signed]
  omega
theorem slH_noneR {w : World} : SlH w (.slice none 0 0) [] := ⟨none, 0, rfl, fun k p hp => by simp at hp⟩
theorem _root_.PF.Blk.slp4 {w u : World} {L : List (Nat × Array Value × TypeId)} (h : Blk w u L) (i : Nat) {q : Nat} {T : TypeId} {a b c d : Int} (hi : L[i]? = some (q, #[.int .i64 a, .int .i64 b, .int .i64 c, .int .i64 b, .int .i64 c, .int .i64 d, .int .i64 a, .int .i64 d], T)) : SlP u (.slice (some ⟨q, 0, none⟩) 4 4) (crn a b c d) := by
  have e := fun o => h.cell i hi o
  refine ⟨_, 4, rfl, fun k p hp => ⟨_, 0, rfl, ?_⟩⟩
  match k, hp with
  | 0, hp => cases hp; exact ⟨e 0, e 1⟩
  | 1, hp => cases hp; exact ⟨e 2, e 3⟩
  | 2, hp => cases hp; exact ⟨e 4, e 5⟩
  | 3, hp => cases hp; exact ⟨e 6, e 7⟩
set_option maxRecDepth 100000 in
set_option maxHeartbeats 40000000 in
theorem rectSides_c (KD : Nat) (hKD : KD ≤ 255) (a b c d : Int) (m : List (Int × Int)) (v : Value) (w : World) (hm : SlP w v m) (hm0 : m.length ≤ 9223372036854775807) :
    Calls Tryz.prog 7 #[.agg #[.int .i64 a, .int .i64 b, .int .i64 c, .int .i64 d], v, .int .u8 KD] w fun e w' => e = .returned (.bool true) ∧ Below w.heap.size w w' := by
  have st0 := (Blk.nil w).push rfl #[.int .i64 a, .int .i64 b, .int .i64 c, .int .i64 d] 49
  obtain ⟨A1, c1, rfl⟩ : ∃ A c, v = .slice A m.length c := hm.len
  rcases Nat.lt_or_ge 2147483647 m.length with hbig | m1
  · have hbig' : (2147483647 : Int) < (m.length : Int) := by omega
    clear hm
    generalize m.length = n at *
    go_enter Tryz.func7, Tryz.ntmps7
    go_wp2
    go_ret
    exact ⟨rfl, st0.hb⟩
  have m2 : ¬ (2147483647 : Int) < (m.length : Int) := by omega
  have x0 := st0.cell 0 rfl 0
  have x1 := st0.cell 0 rfl 1
  have x2 := st0.cell 0 rfl 2
  have x3 := st0.cell 0 rfl 3
  simp only [List.getElem?_toArray, List.getElem?_cons_zero, List.getElem?_cons_succ] at x0 x1 x2 x3
  have st1 := st0.push (b := w.heap.size + 1) (by simp) #[.int .i64 1, .slice (some ⟨w.heap.size, 0, none⟩) 2 2, .slice none 0 0] 27
  have sr1 := st1.slp2 1 rfl
  have s1 := hm.below st1.hb
  have y0 := st1.cell 0 rfl 0
  have y1 := st1.cell 0 rfl 1
  have y2 := st1.cell 0 rfl 2
  simp only [List.getElem?_toArray, List.getElem?_cons_zero, List.getElem?_cons_succ] at y0 y1 y2
  have hiv := isVaryS_c 1 [(a, b), (c, d)] [] (by simp) (fun h hh => by cases hh) _ _ _ sr1 slH_noneR
  go_enter Tryz.func7, Tryz.ntmps7
  go_wp2_with (go_at_call 13; refine JR.StopM.out ?_)
  refine ⟨?_⟩
  refine hiv.mono ?_
  rintro e w2 ⟨ok, rfl, hV, hb⟩
  have st2 := st1.ext hb
  have s2 := s1.below hb
  clear hb st0 st1 s1 sr1 hiv x0 x1 x2 x3 y0 y1 y2
  cases ok with
  | false =>
    clear hV
    go_wp2_with (go_at_call 14; refine JR.StopM.out ?_)
    refine ⟨?_⟩
    refine (awake_c _).mono ?_
    rintro e wA ⟨rfl, hbA⟩
    have stA := st2.ext hbA
    go_wp2
    go_ret
    exact ⟨rfl, stA.hb⟩
  | true =>
  have hVr := hV rfl
  clear hV
  have hvp := varyPoints_c m 2 8 m1 (.slice A1 m.length c1) _ s2
  generalize hvo : decide ((2 : Int) ≤ m.length ∧ (m.length : Int) ≤ 8 ∧ m.all okP = true) = vo at *
  go_wp2_with (go_at_call 20; refine JR.StopM.out ?_)
  refine ⟨?_⟩
  refine hvp.mono ?_
  rintro e w3 ⟨rfl, hb⟩
  have st3 := st2.ext hb
  have s3 := s2.below hb
  clear hb st2 s2 hvp
  cases vo with
  | false =>
    clear hVr hvo
    go_wp2_with (go_at_call 14; refine JR.StopM.out ?_)
    refine ⟨?_⟩
    refine (awake_c _).mono ?_
    rintro e wA ⟨rfl, hbA⟩
    have stA := st3.ext hbA
    go_wp2
    go_ret
    exact ⟨rfl, stA.hb⟩
  | true =>
  have hvo := of_decide_eq_true hvo
  have hml : 2 ≤ m.length ∧ m.length ≤ 8 := by omega
  have hmb := okP_m hvo.2.2
  have hrb := okP_m hVr.1
  have hab := hrb (a, b) (by simp)
  have hcd := hrb (c, d) (by simp)
  simp only at hab hcd
  have hbl : ∀ q ∈ m, Bn1 q := fun q hq => by have := hmb q hq; unfold Bn1; omega
  have hbc : ∀ q ∈ crn a b c d, Bn1 q := fun q hq => by
    unfold Bn1
    simp [crn] at hq
    rcases hq with rfl | rfl | rfl | rfl <;> simp only <;> omega
  obtain ⟨hac, hbd⟩ : a < c ∧ b < d := by
    rcases hVr.2.2.2.2 with ⟨h, -⟩ | ⟨-, X0, Y0, X1, Y1, h, g1, g2⟩ | ⟨h, -⟩ | ⟨h, -⟩
    · cases h
    · simp at h; omega
    · cases h
    · cases h
  have oka := shOk_of hVr
  have okb : ShOk 2 m [] := ⟨fun q hq => by have := hmb q hq; unfold Bn3; omega, by simp, (fun h hh => by cases hh), .inr (.inr (.inl ⟨rfl, hml.1, by omega⟩))⟩
  obtain ⟨ki, hki, hki2⟩ : ∃ ki : Nat, KD % 3 = ki ∧ ki ≤ 2 := ⟨KD % 3, rfl, by omega⟩
  have hrem : (KD : Int).tmod 3 = (ki : Int) := by rw [Int.tmod_eq_emod_of_nonneg (by omega)]; omega
  have wk1 : IntKind.i64.wrap (ki : Int) = (ki : Int) := by
    unfold IntKind.wrap
    simp [IntKind.bits, IntKind.signed]
    omega
  have isx := fun u h1 h2 h3 h4 => isx_c hki2 1 [(a, b), (c, d)] [] oka 2 m [] okb (.slice (some ⟨w.heap.size, 0, none⟩) 2 2) (.slice none 0 0) (.slice A1 m.length c1) (.slice none 0 0) u h1 h2 h3 h4
  have emt : mtV 1 [(a, b), (c, d)] [] 2 m [] = rilV (rl a b c d) m := rfl
  rw [emt] at isx
  have hlaw := rect_sides hac hbd m hml.1
  clear emt oka okb hVr hvo hrb hmb hki hac hbd
  have hbA : -16384 ≤ a ∧ a ≤ 16384 ∧ -16384 ≤ b ∧ b ≤ 16384 ∧ -16384 ≤ c ∧ c ≤ 16384 ∧ -16384 ≤ d ∧ d ≤ 16384 := by omega
  clear hab hcd
  have x0 := st3.cell 1 rfl 0
  have x1 := st3.cell 1 rfl 1
  have x2 := st3.cell 1 rfl 2
  have x3 := st3.cell 1 rfl 3
  simp only [List.getElem?_toArray, List.getElem?_cons_zero, List.getElem?_cons_succ] at x0 x1 x2 x3
  have ltr3 := st3.lt 1 rfl
  have st4 := st3.push (b := w3.heap.size) rfl #[.int .i64 a, .int .i64 b, .int .i64 c, .int .i64 b, .int .i64 c, .int .i64 d, .int .i64 a, .int .i64 d] 42
  have hb34 := (Below.refl w3.heap.size w3).alloc (Nat.le_refl _) (.cells #[.int .i64 a, .int .i64 b, .int .i64 c, .int .i64 b, .int .i64 c, .int .i64 d, .int .i64 a, .int .i64 d] 42)
  have sc4 := st4.slp4 0 rfl
  have s4 := s3.below hb34
  have hvg := varyOf_n m m1 _ _ s4
  go_wp2_with (go_at_call 19; refine JR.StopM.out ?_)
  refine ⟨?_⟩
  refine hvg.mono ?_
  rintro e w4 ⟨g, rfl, hsg, hb4⟩
  obtain ⟨Ag, cg, rfl⟩ := hsg.p.len
  have hvh := varyOf_n (crn a b c d) (by simp [crn]) _ _ (sc4.below hb4)
  go_wp2_with (go_at_call 19; refine JR.StopM.out ?_)
  refine ⟨?_⟩
  refine hvh.mono ?_
  rintro e w5 ⟨h, rfl, hsh, hb5⟩
  have sg5 := hsg.p.below hb5
  have sh5 := hsh.p
  have hb45 := hb4.trans (hb5.mono hb4.size)
  have st5 := st4.ext hb45
  have s5 := s4.below hb45
  have sc5 := sc4.below hb45
  clear hvg hvh hsg hsh hb4 hb5 hb45 st4 s4 sc4 hb34 st3 s3 x0 x1 x2 x3 ltr3
  obtain ⟨bm, om, cm, e1, ltm, hcm⟩ := s5.allR (by omega)
  obtain ⟨bg, og, cg2, e2, ltg, hcg⟩ := sg5.allR (by omega)
  obtain ⟨bh, oh, ch, rfl, lth, hch⟩ := sh5.allR (by simp [crn])
  obtain ⟨bc, oc, cc, e3, ltc, hcc⟩ := sc5.allR (by simp [crn])
  obtain ⟨rfl, rfl⟩ : A1 = some ⟨bm, om, none⟩ ∧ c1 = cm := by simpa using e1
  obtain ⟨rfl, rfl⟩ : Ag = some ⟨bg, og, none⟩ ∧ cg = cg2 := by simpa using e2
  obtain ⟨⟨rfl, rfl⟩, -⟩ : (w3.heap.size = bc ∧ 0 = oc) ∧ 4 = cc := by simpa [crn] using e3
  clear e1 e2 e3 sg5 sh5 sc5
  have ec4 : (crn a b c d).length = 4 := rfl
  simp only [ec4, Nat.zero_add] at hch hcc
  rw [ec4]
  clear ec4
  have ltr := st5.lt 2 rfl
  have lts := st5.lt 1 rfl
  have x0 := st5.cell 2 rfl 0
  have x1 := st5.cell 2 rfl 1
  have x2 := st5.cell 2 rfl 2
  have x3 := st5.cell 2 rfl 3
  simp only [List.getElem?_toArray, List.getElem?_cons_zero, List.getElem?_cons_succ] at x0 x1 x2 x3
  have y0 := st5.cell 1 rfl 0
  have y1 := st5.cell 1 rfl 1
  have y2 := st5.cell 1 rfl 2
  simp only [List.getElem?_toArray, List.getElem?_cons_zero, List.getElem?_cons_succ] at y0 y1 y2
  have B5 := Below.refl w5.heap.size w5
  go_wp2
  go_loopw [11, 54] (fun mt i wr => ∃ j : Nat, j < m.length ∧ i = .int .i64 j ∧ mt = .bool (anyN (rhit a b c d m) j) ∧ (∀ i k, i < j → k < 4 → os a b c d m i k = false) ∧ Below w5.heap.size w5 wr) (fun _ i _ => m.length - (intOf i).toNat)
  case atStart => exact ⟨0, by omega, rfl, rfl, fun i k h => absurd h (Nat.not_lt_zero _), B5⟩
  case round =>
    clear B5
    obtain ⟨j, hj, rfl, rfl, hno, hB⟩ := hrel
    obtain ⟨wo, rfl⟩ : ∃ x, x = wr := ⟨wr, rfl⟩
    obtain ⟨M, hM⟩ : ∃ M, anyN (rhit a b c d m) j = M := ⟨_, rfl⟩
    simp only [hM]
    obtain ⟨j1, hj1⟩ : ∃ j1, j + 1 = j1 := ⟨_, rfl⟩
    have wj := wrapAddR hj1 (by omega)
    have hjl : (j : Int) < (m.length : Int) := by omega
    obtain ⟨p0, p1⟩ := hcm j hj
    have p0 := (hB.cell (p := ⟨bm, om + j * 2, none⟩) ltm).trans p0
    have p1 := (hB.cell (p := ⟨bm, om + j * 2 + 1, none⟩) ltm).trans p1
    have r0 := (hB.cell (p := ⟨w.heap.size, 0, none⟩) ltr).trans x0
    have r1 := (hB.cell (p := ⟨w.heap.size, 1, none⟩) ltr).trans x1
    have r2 := (hB.cell (p := ⟨w.heap.size, 2, none⟩) ltr).trans x2
    have r3 := (hB.cell (p := ⟨w.heap.size, 3, none⟩) ltr).trans x3
    have ltmo := Nat.lt_of_lt_of_le ltm hB.size
    have ltro := Nat.lt_of_lt_of_le ltr hB.size
    have st6 := (Blk.nil wo).push rfl #[.int .i64 (at' m j).1, .int .i64 (at' m j).2] 42
    have z0 := st6.cell 0 rfl 0
    have z1 := st6.cell 0 rfl 1
    simp only [List.getElem?_toArray, List.getElem?_cons_zero, List.getElem?_cons_succ] at z0 z1
    have hpb := at_bn1 hbl j
    unfold Bn1 at hpb
    obtain ⟨ar, -, hra⟩ := rectAsk_c a b c d a b c d (at' m j).1 (at' m j).2 (by omega) (by omega) (by omega)
    obtain ⟨I0, hI⟩ : ∃ x, inB (a, b, c, d) (at' m j) = x := ⟨_, rfl⟩
    have hI' : decide (a ≤ (at' m j).1 ∧ (at' m j).1 ≤ c ∧ b ≤ (at' m j).2 ∧ (at' m j).2 ≤ d) = I0 := hI
    simp only [hI'] at hra
    clear hI' hpb
    have hfd := raF0R
    by_cases hjl1 : j1 = m.length
    · have e13 : ((j1 : Int) == (m.length : Int)) = true := by rw [hjl1]; simp
      cases M with
      | true =>
        clear hra hfd
        have hfin : rilV (rl a b c d) m = true := by
          rw [hlaw (fun i k hi hk => hno i k (by omega) hk), ← hjl1, ← hj1, anyN, hM]
          unfold rhit
          rw [hI, decide_eq_false (by omega), Bool.false_and, Bool.or_false]
          first | rfl | simp
        simp only [hfin] at isx
        have hB7 := hB.trans (st6.hb.mono hB.size)
        have st7 := st5.ext hB7
        have s7 := s5.below hB7
        have sr7 := st7.slp2 2 rfl
        clear hfin hlaw hno hcm hcg hch hcc r0 r1 r2 r3 x0 x1 x2 x3 y0 y1 y2 st6 st5 s5 hM hI hB7
        have y0 := st7.cell 1 rfl 0
        have y1 := st7.cell 1 rfl 1
        have y2 := st7.cell 1 rfl 2
        simp only [List.getElem?_toArray, List.getElem?_cons_zero, List.getElem?_cons_succ] at y0 y1 y2
        go_wp2_with (go_at_call 15; refine JR.StopM.out ?_)
        refine ⟨?_⟩
        refine (isx _ sr7 slH_noneR s7 slH_noneR).mono ?_
        rintro e w8 ⟨rfl, hb8⟩
        have st8 := st7.ext hb8
        clear hb8 st7 s7 sr7 isx y0 y1 y2
        go_wp2_with (go_at_call 14; refine JR.StopM.out ?_)
        refine ⟨?_⟩
        refine (awake_c _).mono ?_
        rintro e wA ⟨rfl, hbA⟩
        have stA := st8.ext hbA
        go_wp2
        go_ret
        exact ⟨rfl, stA.hb⟩
      | false =>
        go_wp2_with (go_at_call 24; refine JR.StopM.out ?_)
        refine ⟨?_⟩
        refine (hra _).mono ?_
        rintro e w6 ⟨vp, vs, cp, cs, rfl, hb⟩
        have st6 := st6.ext hb
        clear hb
        have hfin : rilV (rl a b c d) m = I0 := by
          rw [hlaw (fun i k hi hk => hno i k (by omega) hk), ← hjl1, ← hj1, anyN, hM]
          unfold rhit
          rw [hI, decide_eq_false (by omega), Bool.false_and, Bool.or_false]
          first | rfl | simp
        simp only [hfin] at isx
        have hB7 := hB.trans (st6.hb.mono hB.size)
        have st7 := st5.ext hB7
        have s7 := s5.below hB7
        have sr7 := st7.slp2 2 rfl
        clear hfin hlaw hno hcm hcg hch hcc hra r0 r1 r2 r3 x0 x1 x2 x3 y0 y1 y2 st6 st5 s5 hM hI hB7
        have y0 := st7.cell 1 rfl 0
        have y1 := st7.cell 1 rfl 1
        have y2 := st7.cell 1 rfl 2
        simp only [List.getElem?_toArray, List.getElem?_cons_zero, List.getElem?_cons_succ] at y0 y1 y2
        go_wp2_with (go_at_call 15; refine JR.StopM.out ?_)
        refine ⟨?_⟩
        refine (isx _ sr7 slH_noneR s7 slH_noneR).mono ?_
        rintro e w8 ⟨rfl, hb8⟩
        have st8 := st7.ext hb8
        clear hb8 st7 s7 sr7 isx y0 y1 y2
        cases I0 <;>
        · go_wp2_with (go_at_call 14; refine JR.StopM.out ?_)
          refine ⟨?_⟩
          refine (awake_c _).mono ?_
          rintro e wA ⟨rfl, hbA⟩
          have stA := st8.ext hbA
          go_wp2
          go_ret
          exact ⟨rfl, stA.hb⟩
    · have e13 : ((j1 : Int) == (m.length : Int)) = false := beq_eq_false_iff_ne.2 (by omega)
      cases M with
      | true =>
        clear hra hfd
        go_wp2
        obtain ⟨N1, hN1⟩ : ∃ x : Bool, x = true := ⟨_, rfl⟩
        go_loopw [11, 74] (fun mt i wr => ∃ k : Nat, k ≤ 4 ∧ i = .int .i64 k ∧ mt = .bool (N1 || anyN (qs a b c d m j) k) ∧ (∀ i, i < k → os a b c d m j i = false) ∧ Blk wo wr [(wo.heap.size, #[.int .i64 (at' m j).1, .int .i64 (at' m j).2], 42)]) (fun _ i _ => 4 - (intOf i).toNat)
        case atStart => exact ⟨0, Nat.zero_le _, rfl, by simp [anyN, hN1], fun i h => absurd h (Nat.not_lt_zero _), st6⟩
        case round =>
          clear st6
          obtain ⟨k, hk, rfl, rfl, hnk, hz⟩ := hrel
          have hBz := hB.trans (hz.hb.mono hB.size)
          obtain ⟨N, hN⟩ : ∃ N, (N1 || anyN (qs a b c d m j) k) = N := ⟨_, rfl⟩
          simp only [hN]
          obtain ⟨kk, hkk⟩ : ∃ kk, k + 1 = kk := ⟨_, rfl⟩
          have wk := wrapAddR hkk (by omega)
          have hj1l : (j1 : Int) < (m.length : Int) := by omega
          rcases Nat.lt_or_ge k 4 with hlk | hgk
          · obtain ⟨k1, hk1, hk1l⟩ : ∃ k1, kk % 4 = k1 ∧ k1 < 4 := ⟨_, rfl, Nat.mod_lt _ (by omega)⟩
            have hrk : (kk : Int).tmod 4 = (k1 : Int) := by rw [Int.tmod_eq_emod_of_nonneg (by omega)]; omega
            have hk4 : (k : Int) < 4 := by omega
            have hk14 : (k1 : Int) < 4 := by omega
            have ej : at' m j1 = nxp m j := by unfold nxp; rw [if_neg (by omega), hj1]
            have ek : at' (crn a b c d) k1 = nxp (crn a b c d) k := by
              have : k = 0 ∨ k = 1 ∨ k = 2 ∨ k = 3 := by omega
              subst hkk
              rcases this with rfl | rfl | rfl | rfl <;> subst hk1 <;> rfl
            obtain ⟨g0, g1⟩ := hcg j (by omega)
            obtain ⟨g2, g3⟩ := hcg j1 (by omega)
            obtain ⟨h0, h1⟩ := hch k (by omega)
            obtain ⟨h2, h3⟩ := hch k1 (by omega)
            rw [ej] at g2 g3
            rw [ek] at h2 h3
            have g0 := (hBz.cell (p := ⟨bg, og + j * 2, none⟩) ltg).trans g0
            have g1 := (hBz.cell (p := ⟨bg, og + j * 2 + 1, none⟩) ltg).trans g1
            have g2 := (hBz.cell (p := ⟨bg, og + j1 * 2, none⟩) ltg).trans g2
            have g3 := (hBz.cell (p := ⟨bg, og + j1 * 2 + 1, none⟩) ltg).trans g3
            have h0 := (hBz.cell (p := ⟨bh, oh + k * 2, none⟩) lth).trans h0
            have h1 := (hBz.cell (p := ⟨bh, oh + k * 2 + 1, none⟩) lth).trans h1
            have h2 := (hBz.cell (p := ⟨bh, oh + k1 * 2, none⟩) lth).trans h2
            have h3 := (hBz.cell (p := ⟨bh, oh + k1 * 2 + 1, none⟩) lth).trans h3
            have ltgr := Nat.lt_of_lt_of_le ltg hBz.size
            have lthr := Nat.lt_of_lt_of_le lth hBz.size
            have hov := ovl_q hbl hbc j k
            have hos : oo m (crn a b c d) j k = os a b c d m j k := rfl
            have hqs : qq m (crn a b c d) j k = qs a b c d m j k := rfl
            rw [hos] at hov
            obtain ⟨O, hO⟩ : ∃ O, os a b c d m j k = O := ⟨_, rfl⟩
            rw [hO] at hov
            go_wp2
            refine wp_region_K [] [.val (.slice (some ⟨bg, og, none⟩) m.length cg), .val (.int .i64 j), .val (.pointer (some ⟨bg, og + j * 2, none⟩)), .val (.agg #[.int .i64 (at' m j).1, .int .i64 (at' m j).2]), .val (.slice (some ⟨bg, og, none⟩) m.length cg), .val (.int .i64 j), .val (.int .i64 j1), .val (.pointer (some ⟨bg, og + j1 * 2, none⟩)), .val (.agg #[.int .i64 (nxp m j).1, .int .i64 (nxp m j).2]), .val (.slice (some ⟨bh, oh, none⟩) 4 ch), .val (.int .i64 k), .val (.pointer (some ⟨bh, oh + k * 2, none⟩)), .val (.agg #[.int .i64 (at' (crn a b c d) k).1, .int .i64 (at' (crn a b c d) k).2]), .val (.slice (some ⟨bh, oh, none⟩) 4 ch), .val (.int .i64 k), .val (.int .i64 kk), .val (.int .i64 k1), .val (.pointer (some ⟨bh, oh + k1 * 2, none⟩)), .val (.agg #[.int .i64 (nxp (crn a b c d) k).1, .int .i64 (nxp (crn a b c d) k).2]), .val (.bool O)]
              [[.ini 9], [.ini 12], [.frm 0 77, .frm 1 78], [.frm 2 79], [.ini 9], [.ini 12], [.frm 5 82], [.frm 4 81, .frm 6 83], [.frm 7 84], [.ini 10], [.ini 14], [.frm 9 86, .frm 10 87], [.frm 11 88], [.ini 10], [.ini 14], [.frm 14 91], [.frm 15 92], [.frm 13 90, .frm 16 93], [.frm 17 94], [.frm 3 80, .frm 8 85, .frm 12 89, .frm 18 95]]
              mixed (by kernel_rfl) (by kernel_rfl) (allPre_of ⟨trivial, trivial, trivial, trivial, trivial, trivial, trivial, trivial, trivial, trivial, trivial, trivial, trivial, trivial, trivial, trivial, trivial, trivial, trivial, trivial, trivial⟩)
              ⟨OpOk.quiet rfl ?_, OpOk.quiet rfl ?_, OpOk.quiet rfl ?_, OpOk.quiet rfl ?_, OpOk.quiet rfl ?_, OpOk.quiet rfl ?_, OpOk.quiet rfl ?_, OpOk.quiet rfl ?_, OpOk.quiet rfl ?_, OpOk.quiet rfl ?_, OpOk.quiet rfl ?_, OpOk.quiet rfl ?_, OpOk.quiet rfl ?_, OpOk.quiet rfl ?_, OpOk.quiet rfl ?_, OpOk.quiet rfl ?_, OpOk.quiet rfl ?_, OpOk.quiet rfl ?_, OpOk.quiet rfl ?_, OpOk.call rfl ?_, trivial⟩ ?_
            · intro a u _ hf
              simp [facts, Need.fact, Ent.val, Act.eval] at hf
              go_simp
            · intro a u _ hf
              simp [facts, Need.fact, Ent.val, Act.eval] at hf
              go_simp
            · intro a u _ hf
              simp [facts, Need.fact, Ent.val, Act.eval] at hf
              go_simp
            · intro a u hG hf
              simp [facts, Need.fact, Ent.val, Act.eval] at hf
              have y0 := (hG.cell (p := ⟨bg, og + j * 2, none⟩) ltgr (by simp)).trans g0
              have y1 := (hG.cell (p := ⟨bg, og + j * 2 + 1, none⟩) ltgr (by simp)).trans g1
              go_simp
            · intro a u _ hf
              simp [facts, Need.fact, Ent.val, Act.eval] at hf
              go_simp
            · intro a u _ hf
              simp [facts, Need.fact, Ent.val, Act.eval] at hf
              go_simp
            · intro a u _ hf
              simp [facts, Need.fact, Ent.val, Act.eval] at hf
              go_simp
            · intro a u _ hf
              simp [facts, Need.fact, Ent.val, Act.eval] at hf
              go_simp
            · intro a u hG hf
              simp [facts, Need.fact, Ent.val, Act.eval] at hf
              have y0 := (hG.cell (p := ⟨bg, og + j1 * 2, none⟩) ltgr (by simp)).trans g2
              have y1 := (hG.cell (p := ⟨bg, og + j1 * 2 + 1, none⟩) ltgr (by simp)).trans g3
              go_simp
            · intro a u _ hf
              simp [facts, Need.fact, Ent.val, Act.eval] at hf
              go_simp
            · intro a u _ hf
              simp [facts, Need.fact, Ent.val, Act.eval] at hf
              go_simp
            · intro a u _ hf
              simp [facts, Need.fact, Ent.val, Act.eval] at hf
              go_simp
            · intro a u hG hf
              simp [facts, Need.fact, Ent.val, Act.eval] at hf
              have y0 := (hG.cell (p := ⟨bh, oh + k * 2, none⟩) lthr (by simp)).trans h0
              have y1 := (hG.cell (p := ⟨bh, oh + k * 2 + 1, none⟩) lthr (by simp)).trans h1
              go_simp
            · intro a u _ hf
              simp [facts, Need.fact, Ent.val, Act.eval] at hf
              go_simp
            · intro a u _ hf
              simp [facts, Need.fact, Ent.val, Act.eval] at hf
              go_simp
            · intro a u _ hf
              simp [facts, Need.fact, Ent.val, Act.eval] at hf
              go_simp
            · intro a u _ hf
              simp [facts, Need.fact, Ent.val, Act.eval] at hf
              go_simp
            · intro a u _ hf
              simp [facts, Need.fact, Ent.val, Act.eval] at hf
              go_simp
            · intro a u hG hf
              simp [facts, Need.fact, Ent.val, Act.eval] at hf
              have y0 := (hG.cell (p := ⟨bh, oh + k1 * 2, none⟩) lthr (by simp)).trans h2
              have y1 := (hG.cell (p := ⟨bh, oh + k1 * 2 + 1, none⟩) lthr (by simp)).trans h3
              go_simp
            · intro a u hG hf
              simp [facts, Need.fact, Ent.val, Act.eval] at hf
              have hb5 := hG.below
              refine ⟨_, _, by go_simp, (hov u).mono ?_⟩
              rintro e w' ⟨rfl, hb⟩
              exact ⟨_, rfl, hb, rfl⟩
            intro u lw hw wq hKp hE hI hD
            simp only [allE, Ent.val] at hE
            obtain ⟨u0, u1, u2, u3, u4, u5, u6, u7, u8, u9, u10, u11, u12, u13, u14, u15, u16, u17, u18, u19, -⟩ := hE
            simp only [Nat.reduceAdd] at u0 u1 u2 u3 u4 u5 u6 u7 u8 u9 u10 u11 u12 u13 u14 u15 u16 u17 u18 u19
            simp only [allPut, Act.put, Nat.reduceAdd, u0, u1, u2, u3, u4, u5, u6, u7, u8, u9, u10, u11, u12, u13, u14, u15, u16, u17, u18, u19]
            try simp only [List.setIfInBounds_toArray, List.set_cons_zero, List.set_cons_succ]
            clear hI hD u0 u1 u2 u3 u4 u5 u6 u7 u8 u9 u10 u11 u12 u13 u14 u15 u16 u17 u18 u19 hov g0 g1 g2 g3 h0 h1 h2 h3
            have hz6 := hz.keep hKp (fun i x _ => by simp) (fun x hx => by simp at hx)
            have B6 := hB.trans (hz6.hb.mono hB.size)
            clear hKp hz hBz ltgr lthr
            cases O with
            | true =>
              have st9 := st5.ext B6
              go_wp2_with (go_at_call 14; refine JR.StopM.out ?_)
              refine ⟨?_⟩
              refine (awake_c _).mono ?_
              rintro e wA ⟨rfl, hbA⟩
              have stA := st9.ext hbA
              go_wp2
              go_ret
              exact ⟨rfl, stA.hb⟩
            | false =>
            obtain ⟨g2, g3⟩ := hcm j1 (by omega)
            obtain ⟨h0, h1⟩ := hcc k (by omega)
            obtain ⟨h2, h3⟩ := hcc k1 (by omega)
            rw [ej] at g2 g3
            rw [ek] at h2 h3
            have g2 := (B6.cell (p := ⟨bm, om + j1 * 2, none⟩) ltm).trans g2
            have g3 := (B6.cell (p := ⟨bm, om + j1 * 2 + 1, none⟩) ltm).trans g3
            have h0 := (B6.cell (p := ⟨w3.heap.size, k * 2, none⟩) ltc).trans h0
            have h1 := (B6.cell (p := ⟨w3.heap.size, k * 2 + 1, none⟩) ltc).trans h1
            have h2 := (B6.cell (p := ⟨w3.heap.size, k1 * 2, none⟩) ltc).trans h2
            have h3 := (B6.cell (p := ⟨w3.heap.size, k1 * 2 + 1, none⟩) ltc).trans h3
            have ltmr := Nat.lt_of_lt_of_le ltm B6.size
            have ltcr := Nat.lt_of_lt_of_le ltc B6.size
            obtain ⟨r0', r1', r2', y0', y1', y2', y3', hsk⟩ := sask_q hbl hbc (i := j) (k := k) (hos.trans hO)
            rw [hqs] at hsk
            have hnk2 : ∀ i, i < k + 1 → os a b c d m j i = false := fun i hi => by
              by_cases e : i = k
              · subst e; exact hO
              · exact hnk i (by omega)
            have hstep : (N1 || anyN (qs a b c d m j) (k + 1)) = (N || qs a b c d m j k) := by rw [← hN, anyN, Bool.or_assoc]
            have hfd3 := saF3R
            obtain ⟨q, hq⟩ : ∃ q, qs a b c d m j k = q := ⟨_, rfl⟩
            rw [hq] at hsk hstep
            clear hos hqs
            cases N with
            | true =>
              go_wp2
              refine wp_region_K [] [.val (.bool true), .val (.bool true), .val undef, .val undef, .val undef, .val undef, .val undef, .val undef, .val undef, .val undef, .val undef, .val undef, .val undef, .val undef, .val undef, .val undef, .val undef, .val undef, .val undef, .val undef, .val (.bool true), .val (.bool true)]
                [[.ini 11], [.frm 0 98], [.frm 1 99], [.frm 1 99], [.frm 1 99], [.frm 1 99], [.frm 1 99], [.frm 1 99], [.frm 1 99], [.frm 1 99], [.frm 1 99], [.frm 1 99], [.frm 1 99], [.frm 1 99], [.frm 1 99], [.frm 1 99], [.frm 1 99], [.frm 1 99], [.frm 1 99], [.frm 1 99], [.frm 1 99], [.frm 20 118]]
                mixed (by kernel_rfl) (by kernel_rfl) (allPre_of ⟨trivial, trivial, trivial, trivial, trivial, trivial, trivial, trivial, trivial, trivial, trivial, trivial, trivial, trivial, trivial, trivial, trivial, trivial, trivial, trivial, trivial, trivial, trivial⟩)
                ⟨OpOk.quiet rfl ?_, OpOk.quiet rfl ?_, OpOk.skipG rfl (by kernel_rfl) (fun a w hf => by obtain ⟨h1, -⟩ := hf; exact h1.elim fun _ h => h.elim fun _ h => h), OpOk.skipG rfl (by kernel_rfl) (fun a w hf => by obtain ⟨h1, -⟩ := hf; exact h1.elim fun _ h => h.elim fun _ h => h), OpOk.skipG rfl (by kernel_rfl) (fun a w hf => by obtain ⟨h1, -⟩ := hf; exact h1.elim fun _ h => h.elim fun _ h => h), OpOk.skipG rfl (by kernel_rfl) (fun a w hf => by obtain ⟨h1, -⟩ := hf; exact h1.elim fun _ h => h.elim fun _ h => h), OpOk.skipG rfl (by kernel_rfl) (fun a w hf => by obtain ⟨h1, -⟩ := hf; exact h1.elim fun _ h => h.elim fun _ h => h), OpOk.skipG rfl (by kernel_rfl) (fun a w hf => by obtain ⟨h1, -⟩ := hf; exact h1.elim fun _ h => h.elim fun _ h => h), OpOk.skipG rfl (by kernel_rfl) (fun a w hf => by obtain ⟨h1, -⟩ := hf; exact h1.elim fun _ h => h.elim fun _ h => h), OpOk.skipG rfl (by kernel_rfl) (fun a w hf => by obtain ⟨h1, -⟩ := hf; exact h1.elim fun _ h => h.elim fun _ h => h), OpOk.skipG rfl (by kernel_rfl) (fun a w hf => by obtain ⟨h1, -⟩ := hf; exact h1.elim fun _ h => h.elim fun _ h => h), OpOk.skipG rfl (by kernel_rfl) (fun a w hf => by obtain ⟨h1, -⟩ := hf; exact h1.elim fun _ h => h.elim fun _ h => h), OpOk.skipG rfl (by kernel_rfl) (fun a w hf => by obtain ⟨h1, -⟩ := hf; exact h1.elim fun _ h => h.elim fun _ h => h), OpOk.skipG rfl (by kernel_rfl) (fun a w hf => by obtain ⟨h1, -⟩ := hf; exact h1.elim fun _ h => h.elim fun _ h => h), OpOk.skipG rfl (by kernel_rfl) (fun a w hf => by obtain ⟨h1, -⟩ := hf; exact h1.elim fun _ h => h.elim fun _ h => h), OpOk.skipG rfl (by kernel_rfl) (fun a w hf => by obtain ⟨h1, -⟩ := hf; exact h1.elim fun _ h => h.elim fun _ h => h), OpOk.skipG rfl (by kernel_rfl) (fun a w hf => by obtain ⟨h1, -⟩ := hf; exact h1.elim fun _ h => h.elim fun _ h => h), OpOk.skipG rfl (by kernel_rfl) (fun a w hf => by obtain ⟨h1, -⟩ := hf; exact h1.elim fun _ h => h.elim fun _ h => h), OpOk.skipG rfl (by kernel_rfl) (fun a w hf => by obtain ⟨h1, -⟩ := hf; exact h1.elim fun _ h => h.elim fun _ h => h), OpOk.skipG rfl (by kernel_rfl) (fun a w hf => by obtain ⟨h1, -⟩ := hf; exact h1.elim fun _ h => h.elim fun _ h => h), OpOk.quiet rfl ?_, OpOk.quiet rfl ?_, trivial⟩ ?_
              · intro a u _ hf
                simp [facts, Need.fact, Ent.val, Act.eval] at hf
                go_simp
              · intro a u _ hf
                simp [facts, Need.fact, Ent.val, Act.eval] at hf
                go_simp
              · intro a u _ hf
                simp [facts, Need.fact, Ent.val, Act.eval] at hf
                go_simp
              · intro a u _ hf
                simp [facts, Need.fact, Ent.val, Act.eval] at hf
                go_simp
              intro u lw hw wp hKp hE hI hD
              simp only [allE, Ent.val] at hE
              obtain ⟨u0, u1, u2, u3, u4, u5, u6, u7, u8, u9, u10, u11, u12, u13, u14, u15, u16, u17, u18, u19, u20, u21, -⟩ := hE
              simp only [Nat.reduceAdd] at u0 u1 u2 u3 u4 u5 u6 u7 u8 u9 u10 u11 u12 u13 u14 u15 u16 u17 u18 u19 u20 u21
              simp only [allPut, Act.put, Nat.reduceAdd, u0, u1, u2, u3, u4, u5, u6, u7, u8, u9, u10, u11, u12, u13, u14, u15, u16, u17, u18, u19, u20, u21]
              try simp only [List.setIfInBounds_toArray, List.set_cons_zero, List.set_cons_succ]
              clear hI hD u0 u1 u2 u3 u4 u5 u6 u7 u8 u9 u10 u11 u12 u13 u14 u15 u16 u17 u18 u19 u20 u21 hsk g2 g3 h0 h1 h2 h3
              have hz7 := hz6.keep hKp (fun i x _ => by simp) (fun x hx => by simp at hx)
              clear hKp B6 ltmr ltcr hfd3 hz6
              rw [Bool.true_or] at hstep
              go_wp2
              go_roundw
              case rel => exact ⟨kk, by omega, rfl, by rw [← hkk, hstep], fun i hi => hnk2 i (by omega), hz7⟩
              case measure => simp only [intOf]; omega
            | false =>
              go_wp2
              refine wp_region_K [] [.val (.bool false), .val (.bool false), .val (.agg #[.int .i64 (at' m j).1, .int .i64 (at' m j).2]), .val (.slice (some ⟨bm, om, none⟩) m.length c1), .val (.int .i64 j), .val (.int .i64 j1), .val (.pointer (some ⟨bm, om + j1 * 2, none⟩)), .val (.agg #[.int .i64 (nxp m j).1, .int .i64 (nxp m j).2]), .val (.slice (some ⟨w3.heap.size, 0, none⟩) 4 4), .val (.int .i64 k), .val (.pointer (some ⟨w3.heap.size, k * 2, none⟩)), .val (.agg #[.int .i64 (at' (crn a b c d) k).1, .int .i64 (at' (crn a b c d) k).2]), .val (.slice (some ⟨w3.heap.size, 0, none⟩) 4 4), .val (.int .i64 k), .val (.int .i64 kk), .val (.int .i64 k1), .val (.pointer (some ⟨w3.heap.size, k1 * 2, none⟩)), .val (.agg #[.int .i64 (nxp (crn a b c d) k).1, .int .i64 (nxp (crn a b c d) k).2]), .val (.agg #[.bool r0', .bool r1', .bool r2', .bool q, .int .i64 y0', .int .i64 y1', .int .i64 y2', .int .i64 y3']), .val (.bool q), .val (.bool q), .val (.bool q)]
                [[.ini 11], [.frm 0 98], [.frm 1 99, .ini 13], [.frm 1 99, .ini 1], [.frm 1 99, .ini 12], [.frm 1 99, .frm 4 102], [.frm 1 99, .frm 3 101, .frm 5 103], [.frm 1 99, .frm 6 104], [.frm 1 99, .ini 8], [.frm 1 99, .ini 14], [.frm 1 99, .frm 8 106, .frm 9 107], [.frm 1 99, .frm 10 108], [.frm 1 99, .ini 8], [.frm 1 99, .ini 14], [.frm 1 99, .frm 13 111], [.frm 1 99, .frm 14 112], [.frm 1 99, .frm 12 110, .frm 15 113], [.frm 1 99, .frm 16 114], [.frm 1 99, .frm 2 100, .frm 7 105, .frm 11 109, .frm 17 115], [.frm 1 99, .frm 18 116], [.frm 1 99, .frm 19 117], [.frm 20 118]]
                mixed (by kernel_rfl) (by kernel_rfl) (allPre_of ⟨trivial, trivial, trivial, trivial, trivial, trivial, trivial, trivial, trivial, trivial, trivial, trivial, trivial, trivial, trivial, trivial, trivial, trivial, trivial, trivial, trivial, trivial, trivial⟩)
                ⟨OpOk.quiet rfl ?_, OpOk.quiet rfl ?_, OpOk.quietG rfl (by kernel_rfl) (fun a w hf => by obtain ⟨h1, -⟩ := hf; exact h1.elim fun _ h => h.elim fun _ h => h) ?_, OpOk.quietG rfl (by kernel_rfl) (fun a w hf => by obtain ⟨h1, -⟩ := hf; exact h1.elim fun _ h => h.elim fun _ h => h) ?_, OpOk.quietG rfl (by kernel_rfl) (fun a w hf => by obtain ⟨h1, -⟩ := hf; exact h1.elim fun _ h => h.elim fun _ h => h) ?_, OpOk.quietG rfl (by kernel_rfl) (fun a w hf => by obtain ⟨h1, -⟩ := hf; exact h1.elim fun _ h => h.elim fun _ h => h) ?_, OpOk.quietG rfl (by kernel_rfl) (fun a w hf => by obtain ⟨h1, -⟩ := hf; exact h1.elim fun _ h => h.elim fun _ h => h) ?_, OpOk.quietG rfl (by kernel_rfl) (fun a w hf => by obtain ⟨h1, -⟩ := hf; exact h1.elim fun _ h => h.elim fun _ h => h) ?_, OpOk.quietG rfl (by kernel_rfl) (fun a w hf => by obtain ⟨h1, -⟩ := hf; exact h1.elim fun _ h => h.elim fun _ h => h) ?_, OpOk.quietG rfl (by kernel_rfl) (fun a w hf => by obtain ⟨h1, -⟩ := hf; exact h1.elim fun _ h => h.elim fun _ h => h) ?_, OpOk.quietG rfl (by kernel_rfl) (fun a w hf => by obtain ⟨h1, -⟩ := hf; exact h1.elim fun _ h => h.elim fun _ h => h) ?_, OpOk.quietG rfl (by kernel_rfl) (fun a w hf => by obtain ⟨h1, -⟩ := hf; exact h1.elim fun _ h => h.elim fun _ h => h) ?_, OpOk.quietG rfl (by kernel_rfl) (fun a w hf => by obtain ⟨h1, -⟩ := hf; exact h1.elim fun _ h => h.elim fun _ h => h) ?_, OpOk.quietG rfl (by kernel_rfl) (fun a w hf => by obtain ⟨h1, -⟩ := hf; exact h1.elim fun _ h => h.elim fun _ h => h) ?_, OpOk.quietG rfl (by kernel_rfl) (fun a w hf => by obtain ⟨h1, -⟩ := hf; exact h1.elim fun _ h => h.elim fun _ h => h) ?_, OpOk.quietG rfl (by kernel_rfl) (fun a w hf => by obtain ⟨h1, -⟩ := hf; exact h1.elim fun _ h => h.elim fun _ h => h) ?_, OpOk.quietG rfl (by kernel_rfl) (fun a w hf => by obtain ⟨h1, -⟩ := hf; exact h1.elim fun _ h => h.elim fun _ h => h) ?_, OpOk.quietG rfl (by kernel_rfl) (fun a w hf => by obtain ⟨h1, -⟩ := hf; exact h1.elim fun _ h => h.elim fun _ h => h) ?_, OpOk.callG rfl (by kernel_rfl) (fun a w hf => by obtain ⟨h1, -⟩ := hf; exact h1.elim fun _ h => h.elim fun _ h => h) ?_, OpOk.quietG rfl (by kernel_rfl) (fun a w hf => by obtain ⟨h1, -⟩ := hf; exact h1.elim fun _ h => h.elim fun _ h => h) ?_, OpOk.quiet rfl ?_, OpOk.quiet rfl ?_, trivial⟩ ?_
              · intro a u _ hf
                simp [facts, Need.fact, Ent.val, Act.eval] at hf
                go_simp
              · intro a u _ hf
                simp [facts, Need.fact, Ent.val, Act.eval] at hf
                go_simp
              · intro a u hG hf
                simp [facts, Need.fact, Ent.val, Act.eval] at hf
                have stu := hz6.keep hG (fun i x _ => by simp) (fun x hx => by simp at hx)
                have y0 := stu.cell 0 rfl 0
                have y1 := stu.cell 0 rfl 1
                simp only [List.getElem?_toArray, List.getElem?_cons_zero, List.getElem?_cons_succ] at y0 y1
                go_simp
              · intro a u _ hf
                simp [facts, Need.fact, Ent.val, Act.eval] at hf
                go_simp
              · intro a u _ hf
                simp [facts, Need.fact, Ent.val, Act.eval] at hf
                go_simp
              · intro a u _ hf
                simp [facts, Need.fact, Ent.val, Act.eval] at hf
                go_simp
              · intro a u _ hf
                simp [facts, Need.fact, Ent.val, Act.eval] at hf
                go_simp
              · intro a u hG hf
                simp [facts, Need.fact, Ent.val, Act.eval] at hf
                have y0 := (hG.cell (p := ⟨bm, om + j1 * 2, none⟩) ltmr (by simp)).trans g2
                have y1 := (hG.cell (p := ⟨bm, om + j1 * 2 + 1, none⟩) ltmr (by simp)).trans g3
                go_simp
              · intro a u _ hf
                simp [facts, Need.fact, Ent.val, Act.eval] at hf
                go_simp
              · intro a u _ hf
                simp [facts, Need.fact, Ent.val, Act.eval] at hf
                go_simp
              · intro a u _ hf
                simp [facts, Need.fact, Ent.val, Act.eval] at hf
                go_simp
              · intro a u hG hf
                simp [facts, Need.fact, Ent.val, Act.eval] at hf
                have y0 := (hG.cell (p := ⟨w3.heap.size, k * 2, none⟩) ltcr (by simp)).trans h0
                have y1 := (hG.cell (p := ⟨w3.heap.size, k * 2 + 1, none⟩) ltcr (by simp)).trans h1
                go_simp
              · intro a u _ hf
                simp [facts, Need.fact, Ent.val, Act.eval] at hf
                go_simp
              · intro a u _ hf
                simp [facts, Need.fact, Ent.val, Act.eval] at hf
                go_simp
              · intro a u _ hf
                simp [facts, Need.fact, Ent.val, Act.eval] at hf
                go_simp
              · intro a u _ hf
                simp [facts, Need.fact, Ent.val, Act.eval] at hf
                go_simp
              · intro a u _ hf
                simp [facts, Need.fact, Ent.val, Act.eval] at hf
                go_simp
              · intro a u hG hf
                simp [facts, Need.fact, Ent.val, Act.eval] at hf
                have y0 := (hG.cell (p := ⟨w3.heap.size, k1 * 2, none⟩) ltcr (by simp)).trans h2
                have y1 := (hG.cell (p := ⟨w3.heap.size, k1 * 2 + 1, none⟩) ltcr (by simp)).trans h3
                go_simp
              · intro a u hG hf
                simp [facts, Need.fact, Ent.val, Act.eval] at hf
                have hb5 := hG.below
                refine ⟨_, _, by go_simp, (hsk u).mono ?_⟩
                rintro e w' ⟨rfl, hb⟩
                exact ⟨_, rfl, hb, rfl⟩
              · intro a u _ hf
                simp [facts, Need.fact, Ent.val, Act.eval] at hf
                go_simp
              · intro a u _ hf
                simp [facts, Need.fact, Ent.val, Act.eval] at hf
                go_simp
              · intro a u _ hf
                simp [facts, Need.fact, Ent.val, Act.eval] at hf
                go_simp
              intro u lw hw wp hKp hE hI hD
              simp only [allE, Ent.val] at hE
              obtain ⟨u0, u1, u2, u3, u4, u5, u6, u7, u8, u9, u10, u11, u12, u13, u14, u15, u16, u17, u18, u19, u20, u21, -⟩ := hE
              simp only [Nat.reduceAdd] at u0 u1 u2 u3 u4 u5 u6 u7 u8 u9 u10 u11 u12 u13 u14 u15 u16 u17 u18 u19 u20 u21
              simp only [allPut, Act.put, Nat.reduceAdd, u0, u1, u2, u3, u4, u5, u6, u7, u8, u9, u10, u11, u12, u13, u14, u15, u16, u17, u18, u19, u20, u21]
              try simp only [List.setIfInBounds_toArray, List.set_cons_zero, List.set_cons_succ]
              clear hI hD u0 u1 u2 u3 u4 u5 u6 u7 u8 u9 u10 u11 u12 u13 u14 u15 u16 u17 u18 u19 u20 u21 hsk g2 g3 h0 h1 h2 h3
              have hz7 := hz6.keep hKp (fun i x _ => by simp) (fun x hx => by simp at hx)
              clear hKp B6 ltmr ltcr hfd3 hz6
              rw [Bool.false_or] at hstep
              go_wp2
              go_roundw
              case rel => exact ⟨kk, by omega, rfl, by rw [← hkk, hstep], fun i hi => hnk2 i (by omega), hz7⟩
              case measure => simp only [intOf]; omega
          · obtain rfl : k = 4 := by omega
            have hstepM : anyN (rhit a b c d m) (j + 1) = N := by
              rw [anyN, hM]
              unfold rhit
              rw [hI, decide_eq_true (by omega), Bool.true_and, ← hN, hN1]
              first | rfl | simp
            have hno2 : ∀ i k', i < j + 1 → k' < 4 → os a b c d m i k' = false := fun i k' hi hk' => by
              by_cases e : i = j
              · subst e; exact hnk k' hk'
              · exact hno i k' (by omega) hk'
            clear hnk hno
            go_wp2
            go_roundw
            case rel => exact ⟨j1, by omega, rfl, by rw [← hj1, hstepM], fun i k' hi hk' => hno2 i k' (by omega) hk', hBz⟩
            case measure => simp only [intOf]; omega
      | false =>
        go_wp2_with (go_at_call 24; refine JR.StopM.out ?_)
        refine ⟨?_⟩
        refine (hra _).mono ?_
        rintro e w6 ⟨vp, vs, cp, cs, rfl, hb⟩
        have st6 := st6.ext hb
        clear hb
        go_wp2
        obtain ⟨N1, hN1⟩ : ∃ x : Bool, x = I0 := ⟨_, rfl⟩
        go_loopw [11, 74] (fun mt i wr => ∃ k : Nat, k ≤ 4 ∧ i = .int .i64 k ∧ mt = .bool (N1 || anyN (qs a b c d m j) k) ∧ (∀ i, i < k → os a b c d m j i = false) ∧ Blk wo wr [(wo.heap.size, #[.int .i64 (at' m j).1, .int .i64 (at' m j).2], 42)]) (fun _ i _ => 4 - (intOf i).toNat)
        case atStart => exact ⟨0, Nat.zero_le _, rfl, by simp [anyN, hN1], fun i h => absurd h (Nat.not_lt_zero _), st6⟩
        case round =>
          clear st6
          obtain ⟨k, hk, rfl, rfl, hnk, hz⟩ := hrel
          have hBz := hB.trans (hz.hb.mono hB.size)
          obtain ⟨N, hN⟩ : ∃ N, (N1 || anyN (qs a b c d m j) k) = N := ⟨_, rfl⟩
          simp only [hN]
          obtain ⟨kk, hkk⟩ : ∃ kk, k + 1 = kk := ⟨_, rfl⟩
          have wk := wrapAddR hkk (by omega)
          have hj1l : (j1 : Int) < (m.length : Int) := by omega
          rcases Nat.lt_or_ge k 4 with hlk | hgk
          · obtain ⟨k1, hk1, hk1l⟩ : ∃ k1, kk % 4 = k1 ∧ k1 < 4 := ⟨_, rfl, Nat.mod_lt _ (by omega)⟩
            have hrk : (kk : Int).tmod 4 = (k1 : Int) := by rw [Int.tmod_eq_emod_of_nonneg (by omega)]; omega
            have hk4 : (k : Int) < 4 := by omega
            have hk14 : (k1 : Int) < 4 := by omega
            have ej : at' m j1 = nxp m j := by unfold nxp; rw [if_neg (by omega), hj1]
            have ek : at' (crn a b c d) k1 = nxp (crn a b c d) k := by
              have : k = 0 ∨ k = 1 ∨ k = 2 ∨ k = 3 := by omega
              subst hkk
              rcases this with rfl | rfl | rfl | rfl <;> subst hk1 <;> rfl
            obtain ⟨g0, g1⟩ := hcg j (by omega)
            obtain ⟨g2, g3⟩ := hcg j1 (by omega)
            obtain ⟨h0, h1⟩ := hch k (by omega)
            obtain ⟨h2, h3⟩ := hch k1 (by omega)
            rw [ej] at g2 g3
            rw [ek] at h2 h3
            have g0 := (hBz.cell (p := ⟨bg, og + j * 2, none⟩) ltg).trans g0
            have g1 := (hBz.cell (p := ⟨bg, og + j * 2 + 1, none⟩) ltg).trans g1
            have g2 := (hBz.cell (p := ⟨bg, og + j1 * 2, none⟩) ltg).trans g2
            have g3 := (hBz.cell (p := ⟨bg, og + j1 * 2 + 1, none⟩) ltg).trans g3
            have h0 := (hBz.cell (p := ⟨bh, oh + k * 2, none⟩) lth).trans h0
            have h1 := (hBz.cell (p := ⟨bh, oh + k * 2 + 1, none⟩) lth).trans h1
            have h2 := (hBz.cell (p := ⟨bh, oh + k1 * 2, none⟩) lth).trans h2
            have h3 := (hBz.cell (p := ⟨bh, oh + k1 * 2 + 1, none⟩) lth).trans h3
            have ltgr := Nat.lt_of_lt_of_le ltg hBz.size
            have lthr := Nat.lt_of_lt_of_le lth hBz.size
            have hov := ovl_q hbl hbc j k
            have hos : oo m (crn a b c d) j k = os a b c d m j k := rfl
            have hqs : qq m (crn a b c d) j k = qs a b c d m j k := rfl
            rw [hos] at hov
            obtain ⟨O, hO⟩ : ∃ O, os a b c d m j k = O := ⟨_, rfl⟩
            rw [hO] at hov
            go_wp2
            refine wp_region_K [] [.val (.slice (some ⟨bg, og, none⟩) m.length cg), .val (.int .i64 j), .val (.pointer (some ⟨bg, og + j * 2, none⟩)), .val (.agg #[.int .i64 (at' m j).1, .int .i64 (at' m j).2]), .val (.slice (some ⟨bg, og, none⟩) m.length cg), .val (.int .i64 j), .val (.int .i64 j1), .val (.pointer (some ⟨bg, og + j1 * 2, none⟩)), .val (.agg #[.int .i64 (nxp m j).1, .int .i64 (nxp m j).2]), .val (.slice (some ⟨bh, oh, none⟩) 4 ch), .val (.int .i64 k), .val (.pointer (some ⟨bh, oh + k * 2, none⟩)), .val (.agg #[.int .i64 (at' (crn a b c d) k).1, .int .i64 (at' (crn a b c d) k).2]), .val (.slice (some ⟨bh, oh, none⟩) 4 ch), .val (.int .i64 k), .val (.int .i64 kk), .val (.int .i64 k1), .val (.pointer (some ⟨bh, oh + k1 * 2, none⟩)), .val (.agg #[.int .i64 (nxp (crn a b c d) k).1, .int .i64 (nxp (crn a b c d) k).2]), .val (.bool O)]
              [[.ini 9], [.ini 12], [.frm 0 77, .frm 1 78], [.frm 2 79], [.ini 9], [.ini 12], [.frm 5 82], [.frm 4 81, .frm 6 83], [.frm 7 84], [.ini 10], [.ini 14], [.frm 9 86, .frm 10 87], [.frm 11 88], [.ini 10], [.ini 14], [.frm 14 91], [.frm 15 92], [.frm 13 90, .frm 16 93], [.frm 17 94], [.frm 3 80, .frm 8 85, .frm 12 89, .frm 18 95]]
              mixed (by kernel_rfl) (by kernel_rfl) (allPre_of ⟨trivial, trivial, trivial, trivial, trivial, trivial, trivial, trivial, trivial, trivial, trivial, trivial, trivial, trivial, trivial, trivial, trivial, trivial, trivial, trivial, trivial⟩)
              ⟨OpOk.quiet rfl ?_, OpOk.quiet rfl ?_, OpOk.quiet rfl ?_, OpOk.quiet rfl ?_, OpOk.quiet rfl ?_, OpOk.quiet rfl ?_, OpOk.quiet rfl ?_, OpOk.quiet rfl ?_, OpOk.quiet rfl ?_, OpOk.quiet rfl ?_, OpOk.quiet rfl ?_, OpOk.quiet rfl ?_, OpOk.quiet rfl ?_, OpOk.quiet rfl ?_, OpOk.quiet rfl ?_, OpOk.quiet rfl ?_, OpOk.quiet rfl ?_, OpOk.quiet rfl ?_, OpOk.quiet rfl ?_, OpOk.call rfl ?_, trivial⟩ ?_
            · intro a u _ hf
              simp [facts, Need.fact, Ent.val, Act.eval] at hf
              go_simp
            · intro a u _ hf
              simp [facts, Need.fact, Ent.val, Act.eval] at hf
              go_simp
            · intro a u _ hf
              simp [facts, Need.fact, Ent.val, Act.eval] at hf
              go_simp
            · intro a u hG hf
              simp [facts, Need.fact, Ent.val, Act.eval] at hf
              have y0 := (hG.cell (p := ⟨bg, og + j * 2, none⟩) ltgr (by simp)).trans g0
              have y1 := (hG.cell (p := ⟨bg, og + j * 2 + 1, none⟩) ltgr (by simp)).trans g1
              go_simp
            · intro a u _ hf
              simp [facts, Need.fact, Ent.val, Act.eval] at hf
              go_simp
            · intro a u _ hf
              simp [facts, Need.fact, Ent.val, Act.eval] at hf
              go_simp
            · intro a u _ hf
              simp [facts, Need.fact, Ent.val, Act.eval] at hf
              go_simp
            · intro a u _ hf
              simp [facts, Need.fact, Ent.val, Act.eval] at hf
              go_simp
            · intro a u hG hf
              simp [facts, Need.fact, Ent.val, Act.eval] at hf
              have y0 := (hG.cell (p := ⟨bg, og + j1 * 2, none⟩) ltgr (by simp)).trans g2
              have y1 := (hG.cell (p := ⟨bg, og + j1 * 2 + 1, none⟩) ltgr (by simp)).trans g3
              go_simp
            · intro a u _ hf
              simp [facts, Need.fact, Ent.val, Act.eval] at hf
              go_simp
            · intro a u _ hf
              simp [facts, Need.fact, Ent.val, Act.eval] at hf
              go_simp
            · intro a u _ hf
              simp [facts, Need.fact, Ent.val, Act.eval] at hf
              go_simp
            · intro a u hG hf
              simp [facts, Need.fact, Ent.val, Act.eval] at hf
              have y0 := (hG.cell (p := ⟨bh, oh + k * 2, none⟩) lthr (by simp)).trans h0
              have y1 := (hG.cell (p := ⟨bh, oh + k * 2 + 1, none⟩) lthr (by simp)).trans h1
              go_simp
            · intro a u _ hf
              simp [facts, Need.fact, Ent.val, Act.eval] at hf
              go_simp
            · intro a u _ hf
              simp [facts, Need.fact, Ent.val, Act.eval] at hf
              go_simp
            · intro a u _ hf
              simp [facts, Need.fact, Ent.val, Act.eval] at hf
              go_simp
            · intro a u _ hf
              simp [facts, Need.fact, Ent.val, Act.eval] at hf
              go_simp
            · intro a u _ hf
              simp [facts, Need.fact, Ent.val, Act.eval] at hf
              go_simp
            · intro a u hG hf
              simp [facts, Need.fact, Ent.val, Act.eval] at hf
              have y0 := (hG.cell (p := ⟨bh, oh + k1 * 2, none⟩) lthr (by simp)).trans h2
              have y1 := (hG.cell (p := ⟨bh, oh + k1 * 2 + 1, none⟩) lthr (by simp)).trans h3
              go_simp
            · intro a u hG hf
              simp [facts, Need.fact, Ent.val, Act.eval] at hf
              have hb5 := hG.below
              refine ⟨_, _, by go_simp, (hov u).mono ?_⟩
              rintro e w' ⟨rfl, hb⟩
              exact ⟨_, rfl, hb, rfl⟩
            intro u lw hw wq hKp hE hI hD
            simp only [allE, Ent.val] at hE
            obtain ⟨u0, u1, u2, u3, u4, u5, u6, u7, u8, u9, u10, u11, u12, u13, u14, u15, u16, u17, u18, u19, -⟩ := hE
            simp only [Nat.reduceAdd] at u0 u1 u2 u3 u4 u5 u6 u7 u8 u9 u10 u11 u12 u13 u14 u15 u16 u17 u18 u19
            simp only [allPut, Act.put, Nat.reduceAdd, u0, u1, u2, u3, u4, u5, u6, u7, u8, u9, u10, u11, u12, u13, u14, u15, u16, u17, u18, u19]
            try simp only [List.setIfInBounds_toArray, List.set_cons_zero, List.set_cons_succ]
            clear hI hD u0 u1 u2 u3 u4 u5 u6 u7 u8 u9 u10 u11 u12 u13 u14 u15 u16 u17 u18 u19 hov g0 g1 g2 g3 h0 h1 h2 h3
            have hz6 := hz.keep hKp (fun i x _ => by simp) (fun x hx => by simp at hx)
            have B6 := hB.trans (hz6.hb.mono hB.size)
            clear hKp hz hBz ltgr lthr
            cases O with
            | true =>
              have st9 := st5.ext B6
              go_wp2_with (go_at_call 14; refine JR.StopM.out ?_)
              refine ⟨?_⟩
              refine (awake_c _).mono ?_
              rintro e wA ⟨rfl, hbA⟩
              have stA := st9.ext hbA
              go_wp2
              go_ret
              exact ⟨rfl, stA.hb⟩
            | false =>
            obtain ⟨g2, g3⟩ := hcm j1 (by omega)
            obtain ⟨h0, h1⟩ := hcc k (by omega)
            obtain ⟨h2, h3⟩ := hcc k1 (by omega)
            rw [ej] at g2 g3
            rw [ek] at h2 h3
            have g2 := (B6.cell (p := ⟨bm, om + j1 * 2, none⟩) ltm).trans g2
            have g3 := (B6.cell (p := ⟨bm, om + j1 * 2 + 1, none⟩) ltm).trans g3
            have h0 := (B6.cell (p := ⟨w3.heap.size, k * 2, none⟩) ltc).trans h0
            have h1 := (B6.cell (p := ⟨w3.heap.size, k * 2 + 1, none⟩) ltc).trans h1
            have h2 := (B6.cell (p := ⟨w3.heap.size, k1 * 2, none⟩) ltc).trans h2
            have h3 := (B6.cell (p := ⟨w3.heap.size, k1 * 2 + 1, none⟩) ltc).trans h3
            have ltmr := Nat.lt_of_lt_of_le ltm B6.size
            have ltcr := Nat.lt_of_lt_of_le ltc B6.size
            obtain ⟨r0', r1', r2', y0', y1', y2', y3', hsk⟩ := sask_q hbl hbc (i := j) (k := k) (hos.trans hO)
            rw [hqs] at hsk
            have hnk2 : ∀ i, i < k + 1 → os a b c d m j i = false := fun i hi => by
              by_cases e : i = k
              · subst e; exact hO
              · exact hnk i (by omega)
            have hstep : (N1 || anyN (qs a b c d m j) (k + 1)) = (N || qs a b c d m j k) := by rw [← hN, anyN, Bool.or_assoc]
            have hfd3 := saF3R
            obtain ⟨q, hq⟩ : ∃ q, qs a b c d m j k = q := ⟨_, rfl⟩
            rw [hq] at hsk hstep
            clear hos hqs
            cases N with
            | true =>
              go_wp2
              refine wp_region_K [] [.val (.bool true), .val (.bool true), .val undef, .val undef, .val undef, .val undef, .val undef, .val undef, .val undef, .val undef, .val undef, .val undef, .val undef, .val undef, .val undef, .val undef, .val undef, .val undef, .val undef, .val undef, .val (.bool true), .val (.bool true)]
                [[.ini 11], [.frm 0 98], [.frm 1 99], [.frm 1 99], [.frm 1 99], [.frm 1 99], [.frm 1 99], [.frm 1 99], [.frm 1 99], [.frm 1 99], [.frm 1 99], [.frm 1 99], [.frm 1 99], [.frm 1 99], [.frm 1 99], [.frm 1 99], [.frm 1 99], [.frm 1 99], [.frm 1 99], [.frm 1 99], [.frm 1 99], [.frm 20 118]]
                mixed (by kernel_rfl) (by kernel_rfl) (allPre_of ⟨trivial, trivial, trivial, trivial, trivial, trivial, trivial, trivial, trivial, trivial, trivial, trivial, trivial, trivial, trivial, trivial, trivial, trivial, trivial, trivial, trivial, trivial, trivial⟩)
                ⟨OpOk.quiet rfl ?_, OpOk.quiet rfl ?_, OpOk.skipG rfl (by kernel_rfl) (fun a w hf => by obtain ⟨h1, -⟩ := hf; exact h1.elim fun _ h => h.elim fun _ h => h), OpOk.skipG rfl (by kernel_rfl) (fun a w hf => by obtain ⟨h1, -⟩ := hf; exact h1.elim fun _ h => h.elim fun _ h => h), OpOk.skipG rfl (by kernel_rfl) (fun a w hf => by obtain ⟨h1, -⟩ := hf; exact h1.elim fun _ h => h.elim fun _ h => h), OpOk.skipG rfl (by kernel_rfl) (fun a w hf => by obtain ⟨h1, -⟩ := hf; exact h1.elim fun _ h => h.elim fun _ h => h), OpOk.skipG rfl (by kernel_rfl) (fun a w hf => by obtain ⟨h1, -⟩ := hf; exact h1.elim fun _ h => h.elim fun _ h => h), OpOk.skipG rfl (by kernel_rfl) (fun a w hf => by obtain ⟨h1, -⟩ := hf; exact h1.elim fun _ h => h.elim fun _ h => h), OpOk.skipG rfl (by kernel_rfl) (fun a w hf => by obtain ⟨h1, -⟩ := hf; exact h1.elim fun _ h => h.elim fun _ h => h), OpOk.skipG rfl (by kernel_rfl) (fun a w hf => by obtain ⟨h1, -⟩ := hf; exact h1.elim fun _ h => h.elim fun _ h => h), OpOk.skipG rfl (by kernel_rfl) (fun a w hf => by obtain ⟨h1, -⟩ := hf; exact h1.elim fun _ h => h.elim fun _ h => h), OpOk.skipG rfl (by kernel_rfl) (fun a w hf => by obtain ⟨h1, -⟩ := hf; exact h1.elim fun _ h => h.elim fun _ h => h), OpOk.skipG rfl (by kernel_rfl) (fun a w hf => by obtain ⟨h1, -⟩ := hf; exact h1.elim fun _ h => h.elim fun _ h => h), OpOk.skipG rfl (by kernel_rfl) (fun a w hf => by obtain ⟨h1, -⟩ := hf; exact h1.elim fun _ h => h.elim fun _ h => h), OpOk.skipG rfl (by kernel_rfl) (fun a w hf => by obtain ⟨h1, -⟩ := hf; exact h1.elim fun _ h => h.elim fun _ h => h), OpOk.skipG rfl (by kernel_rfl) (fun a w hf => by obtain ⟨h1, -⟩ := hf; exact h1.elim fun _ h => h.elim fun _ h => h), OpOk.skipG rfl (by kernel_rfl) (fun a w hf => by obtain ⟨h1, -⟩ := hf; exact h1.elim fun _ h => h.elim fun _ h => h), OpOk.skipG rfl (by kernel_rfl) (fun a w hf => by obtain ⟨h1, -⟩ := hf; exact h1.elim fun _ h => h.elim fun _ h => h), OpOk.skipG rfl (by kernel_rfl) (fun a w hf => by obtain ⟨h1, -⟩ := hf; exact h1.elim fun _ h => h.elim fun _ h => h), OpOk.skipG rfl (by kernel_rfl) (fun a w hf => by obtain ⟨h1, -⟩ := hf; exact h1.elim fun _ h => h.elim fun _ h => h), OpOk.quiet rfl ?_, OpOk.quiet rfl ?_, trivial⟩ ?_
              · intro a u _ hf
                simp [facts, Need.fact, Ent.val, Act.eval] at hf
                go_simp
              · intro a u _ hf
                simp [facts, Need.fact, Ent.val, Act.eval] at hf
                go_simp
              · intro a u _ hf
                simp [facts, Need.fact, Ent.val, Act.eval] at hf
                go_simp
              · intro a u _ hf
                simp [facts, Need.fact, Ent.val, Act.eval] at hf
                go_simp
              intro u lw hw wp hKp hE hI hD
              simp only [allE, Ent.val] at hE
              obtain ⟨u0, u1, u2, u3, u4, u5, u6, u7, u8, u9, u10, u11, u12, u13, u14, u15, u16, u17, u18, u19, u20, u21, -⟩ := hE
              simp only [Nat.reduceAdd] at u0 u1 u2 u3 u4 u5 u6 u7 u8 u9 u10 u11 u12 u13 u14 u15 u16 u17 u18 u19 u20 u21
              simp only [allPut, Act.put, Nat.reduceAdd, u0, u1, u2, u3, u4, u5, u6, u7, u8, u9, u10, u11, u12, u13, u14, u15, u16, u17, u18, u19, u20, u21]
              try simp only [List.setIfInBounds_toArray, List.set_cons_zero, List.set_cons_succ]
              clear hI hD u0 u1 u2 u3 u4 u5 u6 u7 u8 u9 u10 u11 u12 u13 u14 u15 u16 u17 u18 u19 u20 u21 hsk g2 g3 h0 h1 h2 h3
              have hz7 := hz6.keep hKp (fun i x _ => by simp) (fun x hx => by simp at hx)
              clear hKp B6 ltmr ltcr hfd3 hz6
              rw [Bool.true_or] at hstep
              go_wp2
              go_roundw
              case rel => exact ⟨kk, by omega, rfl, by rw [← hkk, hstep], fun i hi => hnk2 i (by omega), hz7⟩
              case measure => simp only [intOf]; omega
            | false =>
              go_wp2
              refine wp_region_K [] [.val (.bool false), .val (.bool false), .val (.agg #[.int .i64 (at' m j).1, .int .i64 (at' m j).2]), .val (.slice (some ⟨bm, om, none⟩) m.length c1), .val (.int .i64 j), .val (.int .i64 j1), .val (.pointer (some ⟨bm, om + j1 * 2, none⟩)), .val (.agg #[.int .i64 (nxp m j).1, .int .i64 (nxp m j).2]), .val (.slice (some ⟨w3.heap.size, 0, none⟩) 4 4), .val (.int .i64 k), .val (.pointer (some ⟨w3.heap.size, k * 2, none⟩)), .val (.agg #[.int .i64 (at' (crn a b c d) k).1, .int .i64 (at' (crn a b c d) k).2]), .val (.slice (some ⟨w3.heap.size, 0, none⟩) 4 4), .val (.int .i64 k), .val (.int .i64 kk), .val (.int .i64 k1), .val (.pointer (some ⟨w3.heap.size, k1 * 2, none⟩)), .val (.agg #[.int .i64 (nxp (crn a b c d) k).1, .int .i64 (nxp (crn a b c d) k).2]), .val (.agg #[.bool r0', .bool r1', .bool r2', .bool q, .int .i64 y0', .int .i64 y1', .int .i64 y2', .int .i64 y3']), .val (.bool q), .val (.bool q), .val (.bool q)]
                [[.ini 11], [.frm 0 98], [.frm 1 99, .ini 13], [.frm 1 99, .ini 1], [.frm 1 99, .ini 12], [.frm 1 99, .frm 4 102], [.frm 1 99, .frm 3 101, .frm 5 103], [.frm 1 99, .frm 6 104], [.frm 1 99, .ini 8], [.frm 1 99, .ini 14], [.frm 1 99, .frm 8 106, .frm 9 107], [.frm 1 99, .frm 10 108], [.frm 1 99, .ini 8], [.frm 1 99, .ini 14], [.frm 1 99, .frm 13 111], [.frm 1 99, .frm 14 112], [.frm 1 99, .frm 12 110, .frm 15 113], [.frm 1 99, .frm 16 114], [.frm 1 99, .frm 2 100, .frm 7 105, .frm 11 109, .frm 17 115], [.frm 1 99, .frm 18 116], [.frm 1 99, .frm 19 117], [.frm 20 118]]
                mixed (by kernel_rfl) (by kernel_rfl) (allPre_of ⟨trivial, trivial, trivial, trivial, trivial, trivial, trivial, trivial, trivial, trivial, trivial, trivial, trivial, trivial, trivial, trivial, trivial, trivial, trivial, trivial, trivial, trivial, trivial⟩)
                ⟨OpOk.quiet rfl ?_, OpOk.quiet rfl ?_, OpOk.quietG rfl (by kernel_rfl) (fun a w hf => by obtain ⟨h1, -⟩ := hf; exact h1.elim fun _ h => h.elim fun _ h => h) ?_, OpOk.quietG rfl (by kernel_rfl) (fun a w hf => by obtain ⟨h1, -⟩ := hf; exact h1.elim fun _ h => h.elim fun _ h => h) ?_, OpOk.quietG rfl (by kernel_rfl) (fun a w hf => by obtain ⟨h1, -⟩ := hf; exact h1.elim fun _ h => h.elim fun _ h => h) ?_, OpOk.quietG rfl (by kernel_rfl) (fun a w hf => by obtain ⟨h1, -⟩ := hf; exact h1.elim fun _ h => h.elim fun _ h => h) ?_, OpOk.quietG rfl (by kernel_rfl) (fun a w hf => by obtain ⟨h1, -⟩ := hf; exact h1.elim fun _ h => h.elim fun _ h => h) ?_, OpOk.quietG rfl (by kernel_rfl) (fun a w hf => by obtain ⟨h1, -⟩ := hf; exact h1.elim fun _ h => h.elim fun _ h => h) ?_, OpOk.quietG rfl (by kernel_rfl) (fun a w hf => by obtain ⟨h1, -⟩ := hf; exact h1.elim fun _ h => h.elim fun _ h => h) ?_, OpOk.quietG rfl (by kernel_rfl) (fun a w hf => by obtain ⟨h1, -⟩ := hf; exact h1.elim fun _ h => h.elim fun _ h => h) ?_, OpOk.quietG rfl (by kernel_rfl) (fun a w hf => by obtain ⟨h1, -⟩ := hf; exact h1.elim fun _ h => h.elim fun _ h => h) ?_, OpOk.quietG rfl (by kernel_rfl) (fun a w hf => by obtain ⟨h1, -⟩ := hf; exact h1.elim fun _ h => h.elim fun _ h => h) ?_, OpOk.quietG rfl (by kernel_rfl) (fun a w hf => by obtain ⟨h1, -⟩ := hf; exact h1.elim fun _ h => h.elim fun _ h => h) ?_, OpOk.quietG rfl (by kernel_rfl) (fun a w hf => by obtain ⟨h1, -⟩ := hf; exact h1.elim fun _ h => h.elim fun _ h => h) ?_, OpOk.quietG rfl (by kernel_rfl) (fun a w hf => by obtain ⟨h1, -⟩ := hf; exact h1.elim fun _ h => h.elim fun _ h => h) ?_, OpOk.quietG rfl (by kernel_rfl) (fun a w hf => by obtain ⟨h1, -⟩ := hf; exact h1.elim fun _ h => h.elim fun _ h => h) ?_, OpOk.quietG rfl (by kernel_rfl) (fun a w hf => by obtain ⟨h1, -⟩ := hf; exact h1.elim fun _ h => h.elim fun _ h => h) ?_, OpOk.quietG rfl (by kernel_rfl) (fun a w hf => by obtain ⟨h1, -⟩ := hf; exact h1.elim fun _ h => h.elim fun _ h => h) ?_, OpOk.callG rfl (by kernel_rfl) (fun a w hf => by obtain ⟨h1, -⟩ := hf; exact h1.elim fun _ h => h.elim fun _ h => h) ?_, OpOk.quietG rfl (by kernel_rfl) (fun a w hf => by obtain ⟨h1, -⟩ := hf; exact h1.elim fun _ h => h.elim fun _ h => h) ?_, OpOk.quiet rfl ?_, OpOk.quiet rfl ?_, trivial⟩ ?_
              · intro a u _ hf
                simp [facts, Need.fact, Ent.val, Act.eval] at hf
                go_simp
              · intro a u _ hf
                simp [facts, Need.fact, Ent.val, Act.eval] at hf
                go_simp
              · intro a u hG hf
                simp [facts, Need.fact, Ent.val, Act.eval] at hf
                have stu := hz6.keep hG (fun i x _ => by simp) (fun x hx => by simp at hx)
                have y0 := stu.cell 0 rfl 0
                have y1 := stu.cell 0 rfl 1
                simp only [List.getElem?_toArray, List.getElem?_cons_zero, List.getElem?_cons_succ] at y0 y1
                go_simp
              · intro a u _ hf
                simp [facts, Need.fact, Ent.val, Act.eval] at hf
                go_simp
              · intro a u _ hf
                simp [facts, Need.fact, Ent.val, Act.eval] at hf
                go_simp
              · intro a u _ hf
                simp [facts, Need.fact, Ent.val, Act.eval] at hf
                go_simp
              · intro a u _ hf
                simp [facts, Need.fact, Ent.val, Act.eval] at hf
                go_simp
              · intro a u hG hf
                simp [facts, Need.fact, Ent.val, Act.eval] at hf
                have y0 := (hG.cell (p := ⟨bm, om + j1 * 2, none⟩) ltmr (by simp)).trans g2
                have y1 := (hG.cell (p := ⟨bm, om + j1 * 2 + 1, none⟩) ltmr (by simp)).trans g3
                go_simp
              · intro a u _ hf
                simp [facts, Need.fact, Ent.val, Act.eval] at hf
                go_simp
              · intro a u _ hf
                simp [facts, Need.fact, Ent.val, Act.eval] at hf
                go_simp
              · intro a u _ hf
                simp [facts, Need.fact, Ent.val, Act.eval] at hf
                go_simp
              · intro a u hG hf
                simp [facts, Need.fact, Ent.val, Act.eval] at hf
                have y0 := (hG.cell (p := ⟨w3.heap.size, k * 2, none⟩) ltcr (by simp)).trans h0
                have y1 := (hG.cell (p := ⟨w3.heap.size, k * 2 + 1, none⟩) ltcr (by simp)).trans h1
                go_simp
              · intro a u _ hf
                simp [facts, Need.fact, Ent.val, Act.eval] at hf
                go_simp
              · intro a u _ hf
                simp [facts, Need.fact, Ent.val, Act.eval] at hf
                go_simp
              · intro a u _ hf
                simp [facts, Need.fact, Ent.val, Act.eval] at hf
                go_simp
              · intro a u _ hf
                simp [facts, Need.fact, Ent.val, Act.eval] at hf
                go_simp
              · intro a u _ hf
                simp [facts, Need.fact, Ent.val, Act.eval] at hf
                go_simp
              · intro a u hG hf
                simp [facts, Need.fact, Ent.val, Act.eval] at hf
                have y0 := (hG.cell (p := ⟨w3.heap.size, k1 * 2, none⟩) ltcr (by simp)).trans h2
                have y1 := (hG.cell (p := ⟨w3.heap.size, k1 * 2 + 1, none⟩) ltcr (by simp)).trans h3
                go_simp
              · intro a u hG hf
                simp [facts, Need.fact, Ent.val, Act.eval] at hf
                have hb5 := hG.below
                refine ⟨_, _, by go_simp, (hsk u).mono ?_⟩
                rintro e w' ⟨rfl, hb⟩
                exact ⟨_, rfl, hb, rfl⟩
              · intro a u _ hf
                simp [facts, Need.fact, Ent.val, Act.eval] at hf
                go_simp
              · intro a u _ hf
                simp [facts, Need.fact, Ent.val, Act.eval] at hf
                go_simp
              · intro a u _ hf
                simp [facts, Need.fact, Ent.val, Act.eval] at hf
                go_simp
              intro u lw hw wp hKp hE hI hD
              simp only [allE, Ent.val] at hE
              obtain ⟨u0, u1, u2, u3, u4, u5, u6, u7, u8, u9, u10, u11, u12, u13, u14, u15, u16, u17, u18, u19, u20, u21, -⟩ := hE
              simp only [Nat.reduceAdd] at u0 u1 u2 u3 u4 u5 u6 u7 u8 u9 u10 u11 u12 u13 u14 u15 u16 u17 u18 u19 u20 u21
              simp only [allPut, Act.put, Nat.reduceAdd, u0, u1, u2, u3, u4, u5, u6, u7, u8, u9, u10, u11, u12, u13, u14, u15, u16, u17, u18, u19, u20, u21]
              try simp only [List.setIfInBounds_toArray, List.set_cons_zero, List.set_cons_succ]
              clear hI hD u0 u1 u2 u3 u4 u5 u6 u7 u8 u9 u10 u11 u12 u13 u14 u15 u16 u17 u18 u19 u20 u21 hsk g2 g3 h0 h1 h2 h3
              have hz7 := hz6.keep hKp (fun i x _ => by simp) (fun x hx => by simp at hx)
              clear hKp B6 ltmr ltcr hfd3 hz6
              rw [Bool.false_or] at hstep
              go_wp2
              go_roundw
              case rel => exact ⟨kk, by omega, rfl, by rw [← hkk, hstep], fun i hi => hnk2 i (by omega), hz7⟩
              case measure => simp only [intOf]; omega
          · obtain rfl : k = 4 := by omega
            have hstepM : anyN (rhit a b c d m) (j + 1) = N := by
              rw [anyN, hM]
              unfold rhit
              rw [hI, decide_eq_true (by omega), Bool.true_and, ← hN, hN1]
              first | rfl | simp
            have hno2 : ∀ i k', i < j + 1 → k' < 4 → os a b c d m i k' = false := fun i k' hi hk' => by
              by_cases e : i = j
              · subst e; exact hnk k' hk'
              · exact hno i k' (by omega) hk'
            clear hnk hno
            go_wp2
            go_roundw
            case rel => exact ⟨j1, by omega, rfl, by rw [← hj1, hstepM], fun i k' hi hk' => hno2 i k' (by omega) hk', hBz⟩
            case measure => simp only [intOf]; omega
end Go.Proofs.YtbfanhdofopnnaaGreat
