import Derived.Test.YtlpibeloedfbdaaGreatQN
set_option linter.unusedSimpArgs false
set_option linter.unusedVariables false
/-! What shapes contain, the outer one a point, a rectangle or a convex polygon without holes (printed by gen/ua.py). -/
namespace Go.Proofs.YtlpibeloedfbdaaGreat
open Go.RowKit PF JR
set_option maxRecDepth 100000 in
set_option maxHeartbeats 8000000 in
theorem rcrE_c {f1 f2 : RF} {T1 T2 : TypeId} {y1 y2 : Value} {cl : Bool} {l m : List (Int × Int)} {w : World} (H1 : RingM f1 T1 y1 true l w) (H2 : RingM f2 T2 y2 cl m w) (hbl : BdR (ppB true l)) (hbm : BdR (ppB cl m)) (hcv1 : ppV true l = true) (P : Nat → Bool)
    (hp : ∀ k, k < m.length → ∀ u, Below w.heap.size w u → Calls Tryz.prog 107 #[.iface T1 y1, .agg #[fl (fb (at' m k).1), fl (fb (at' m k).2)], .bool true] u fun e u' => ∃ x : Int, e = .returned (.agg #[.bool (P k), .int .i64 x]) ∧ Below u.heap.size u u') :
    Calls Tryz.prog 142 #[.iface T1 y1, .iface T2 y2, .bool true] w fun e w' => e = .returned (.bool (decide ((ppB true l).1 ≤ (ppB cl m).1 ∧ (ppB cl m).2.2.1 ≤ (ppB true l).2.2.1 ∧ (ppB true l).2.1 ≤ (ppB cl m).2.1 ∧ (ppB cl m).2.2.2 ≤ (ppB true l).2.2.2) && allN P m.length)) ∧ Below w.heap.size w w' := by
  obtain ⟨x1, x2, x3, x4⟩ := hbl
  obtain ⟨x5, x6, x7, x8⟩ := hbm
  have hrir := fun u => rcr_c (fb_rep (ppB true l).1 (by omega)) (fb_rep (ppB true l).2.1 (by omega)) (fb_rep (ppB true l).2.2.1 (by omega)) (fb_rep (ppB true l).2.2.2 (by omega)) (fb_rep (ppB cl m).1 (by omega)) (fb_rep (ppB cl m).2.1 (by omega)) (fb_rep (ppB cl m).2.2.1 (by omega)) (fb_rep (ppB cl m).2.2.2 (by omega)) u
  obtain ⟨bm, hbm⟩ : ∃ b, decide ((ppB true l).1 ≤ (ppB cl m).1 ∧ (ppB cl m).2.2.1 ≤ (ppB true l).2.2.1 ∧ (ppB true l).2.1 ≤ (ppB cl m).2.1 ∧ (ppB cl m).2.2.2 ≤ (ppB true l).2.2.2) = b := ⟨_, rfl⟩
  rw [hbm] at hrir
  simp only [hbm]
  clear hbm x1 x2 x3 x4 x5 x6 x7 x8
  obtain ⟨res, hres⟩ : ∃ r, allN P m.length = r := ⟨_, rfl⟩
  simp only [hres]
  have hc1 := H1.crect
  have hc2 := H2.crect
  have he1 := H1.cempty
  have he2 := H2.cempty
  have hn2 := H2.cnpts
  have hp2 := H2.cptat
  have hcv := H1.cconv
  have hm12 := H2.len
  obtain ⟨mr1, er1⟩ := H1.mrect
  obtain ⟨mr2, er2⟩ := H2.mrect
  obtain ⟨me1, ee1⟩ := H1.mempty
  obtain ⟨me2, ee2⟩ := H2.mempty
  obtain ⟨mn2, en2⟩ := H2.mnpts
  obtain ⟨mp2, ep2⟩ := H2.mptat
  obtain ⟨mc1, ec1⟩ := H1.mconv
  generalize ga : (Value.agg #[fl (fb (ppB true l).1), fl (fb (ppB true l).2.1), fl (fb (ppB true l).2.2.1), fl (fb (ppB true l).2.2.2)]) = RA at *
  generalize gb : (Value.agg #[fl (fb (ppB cl m).1), fl (fb (ppB cl m).2.1), fl (fb (ppB cl m).2.2.1), fl (fb (ppB cl m).2.2.2)]) = RB at *
  clear ga gb
  simp only [hcv1] at hcv
  clear hcv1
  generalize m.length = n1 at *
  have hd16 : ¬ (n1 : Int) ≥ 16 := by omega
  have hd16' := decide_eq_false hd16
  have B0 := Below.refl w.heap.size w
  go_enter Tryz.func142, Tryz.ntmps142
  go_wp2_with (with_reducible refine stopC f1.empty ?_)
  refine ⟨?_⟩
  refine (he1 _ B0).mono ?_
  rintro e w1 ⟨rfl, hb⟩
  have B1 := B0.trans (hb.mono B0.size)
  clear hb B0 he1
  go_wp2_with (with_reducible refine stopC f2.empty ?_)
  refine ⟨?_⟩
  refine (he2 _ B1).mono ?_
  rintro e w2 ⟨rfl, hb⟩
  have B2 := B1.trans (hb.mono B1.size)
  clear hb B1 he2
  go_wp2_with (with_reducible refine stopC f2.npts ?_)
  refine ⟨?_⟩
  refine (hn2 _ B2).mono ?_
  rintro e w3 ⟨rfl, hb⟩
  have B3 := B2.trans (hb.mono B2.size)
  clear hb B2
  go_wp2_with (with_reducible refine stopC f1.rect ?_)
  refine ⟨?_⟩
  refine (hc1 _ B3).mono ?_
  rintro e w4 ⟨rfl, hb⟩
  have B4 := B3.trans (hb.mono B3.size)
  clear hb B3 hc1
  go_wp2_with (with_reducible refine stopC f2.rect ?_)
  refine ⟨?_⟩
  refine (hc2 _ B4).mono ?_
  rintro e w5 ⟨rfl, hb⟩
  have B5 := B4.trans (hb.mono B4.size)
  clear hb B4 hc2
  go_wp2_with (go_at_call 24; refine JR.StopM.out ?_)
  refine ⟨?_⟩
  refine (hrir _).mono ?_
  rintro e w6 ⟨rfl, hb⟩
  have B6 := B5.trans (hb.mono B5.size)
  clear hb B5 hrir
  cases bm with
  | false =>
    go_wp2
    go_ret
    exact ⟨rfl, B6⟩
  | true =>
  go_wp2_with (with_reducible refine stopC f1.conv ?_)
  refine ⟨?_⟩
  refine (hcv _ B6).mono ?_
  rintro e w7 ⟨rfl, hb⟩
  have B7 := B6.trans (hb.mono B6.size)
  clear hb B6 hcv
  focus
    go_wp2_with (with_reducible refine stopC f2.npts ?_)
    refine ⟨?_⟩
    refine (hn2 _ B7).mono ?_
    rintro e w8 ⟨rfl, hb⟩
    have B8 := B7.trans (hb.mono B7.size)
    clear hb B7
    go_wp2
    go_loopw [8] (fun i wr => ∃ k : Nat, k ≤ n1 ∧ i = .int .i64 k ∧ anyN (fun k => !P k) k = false ∧ Below w.heap.size w wr) (fun i _ => n1 - (intOf i).toNat)
    case atStart => exact ⟨0, Nat.zero_le _, rfl, rfl, B8⟩
    case round =>
      clear B8
      obtain ⟨k, hk, rfl, ho, hB⟩ := hrel
      rcases Nat.lt_or_ge k n1 with hlt | hge
      · have hlt' : (k : Int) < (n1 : Int) := by omega
        go_wp2_with (with_reducible refine stopC f2.ptat ?_)
        refine ⟨?_⟩
        refine (hp2 k _ hlt hB).mono ?_
        rintro e w9 ⟨rfl, hb⟩
        have B9 := hB.trans (hb.mono hB.size)
        clear hb hB
        have hpk := hp k hlt w9 B9
        generalize fb (at' m k).1 = px at *
        generalize fb (at' m k).2 = py at *
        go_wp2_with (go_at_call 107; refine JR.StopM.out ?_)
        refine ⟨?_⟩
        refine hpk.mono ?_
        rintro e w10 ⟨x, rfl, hb⟩
        have B10 := B9.trans (hb.mono B9.size)
        clear hb B9 hpk
        have hfd : (Instr.field 167 (.agg #[.bool (P k), .int .i64 x]) 0).run Tryz.prog w10 = .ok (.bool (P k)) w10 := by kernel_rfl
        have hstep : anyN (fun k => !P k) (k + 1) = (anyN (fun k => !P k) k || !P k) := rfl
        cases hr' : P k with
        | false =>
          have hz := allN_no hlt hr'
          rw [hr'] at hfd
          go_wp2
          go_ret
          exact ⟨by rw [← hres, hz]; rfl, B10⟩
        | true =>
          rw [ho, hr'] at hstep
          rw [hr'] at hfd
          go_wp2
          go_roundw
          case rel => exact ⟨k + 1, hlt, by go_num, hstep, B10⟩
          case measure => simp [intOf]; omega
      · obtain rfl : k = n1 := by omega
        have hz : allN P k = true := by unfold allN; rw [ho]; rfl
        go_wp2
        go_ret
        exact ⟨by rw [← hres, hz]; rfl, hB⟩
/-- the convex ring l holds the ring or line m, its edge counted as within -/
def rchV (l : List (Int × Int)) (cl : Bool) (m : List (Int × Int)) : Bool := bcB (ppB true l) (ppB cl m) && allN (fun k => ringHas l (at' m k) true) m.length
theorem rcrE_q {f f2 : RF} {T T2 : TypeId} {y y2 : Value} {l m : List (Int × Int)} {w : World} {cl : Bool} (H : RG f T y l w) (hc : ppV true l = true) (H2 : RingM f2 T2 y2 cl m w) (hm : ∀ p ∈ m, Bn3 p) (hbm : BdR (ppB cl m)) (u : World) (hu : Below w.heap.size w u) :
    Calls Tryz.prog 142 #[.iface T y, .iface T2 y2, .bool true] u fun e w' => e = .returned (.bool (rchV l cl m)) ∧ Below u.heap.size u w' :=
  rcrE_c (H.r.below hu) (H2.below hu) H.bx hbm hc _ (fun k _ z hz => H.cp (at_bn3 hm k) true z (hu.trans (hz.mono hu.size)))
/-- ringContainsLine -/
theorem rclE_c {f : RF} {T : TypeId} {y : Value} {l m : List (Int × Int)} {w : World} (R : RG f T y l w) (hc : ppV true l = true) (K : Nat) (hK : K ≤ 2) (hm12 : m.length ≤ 12) (hm2 : 2 ≤ m.length) (hm : ∀ p ∈ m, Bn3 p) (lo c : Nat) (S : SkP K false m 83 lo w.heap.size c w) (u : World) (hu : Below w.heap.size w u) :
    Calls Tryz.prog 162 #[.iface T y, .pointer (some ⟨c, 0, none⟩), .bool true] u fun e w' => e = .returned (.bool (rchV l false m)) ∧ Below u.heap.size u w' := by
  have hq := rcrE_q (R.below hu) hc (bsRing K hK (cl := false) hm12 hm2 (fun h => (nomatch h)) (fun p hp => (hm p hp).b) ((S.below hu).wide (Nat.le_refl _) hu.size)) hm (ppBF_bd hm2 (fun p hp => (hm p hp).b)) u (Below.refl _ _)
  go_enter Tryz.func162, Tryz.ntmps162
  go_wp2_with (go_at_call 142; refine JR.StopM.out ?_)
  refine ⟨?_⟩
  refine hq.mono ?_
  rintro e w1 ⟨rfl, hb⟩
  go_wp2
  go_ret
  exact ⟨rfl, hb⟩
set_option maxRecDepth 100000 in
set_option maxHeartbeats 8000000 in
theorem pcp_c {n1 n2 : Nat} {l m : List (Int × Int)} {G : List (List (Int × Int))} {w : World} (P1 : PolM n1 l [] w) (hcv : ppV true l = true) (P2 : PolM n2 m G w) :
    Calls Tryz.prog 165 #[.pointer (some ⟨n1, 0, none⟩), .pointer (some ⟨n2, 0, none⟩)] w fun e w' => e = .returned (.bool (rchV l true m)) ∧ Below w.heap.size w w' := by
  obtain ⟨f1, T1, y1, A1, c1, hn1, R1, H1, l1⟩ := P1
  obtain ⟨f2, T2, y2, A2, c2, hn2, R2, H2, l2⟩ := P2
  have x0 := cellAt hn1 0
  have z0 := cellAt hn2 0
  simp only [List.getElem?_toArray, List.getElem?_cons_zero, List.getElem?_cons_succ, List.length_nil] at x0 z0 hn1
  have hrir := fun u hu => rcrE_q R1 hcv R2.r R2.b R2.bx u hu
  obtain ⟨rr, hrr⟩ : ∃ r, rchV l true m = r := ⟨_, rfl⟩
  simp only [hrr] at hrir ⊢
  clear hrr H1 H2
  go_enter Tryz.func165, Tryz.ntmps165
  go_wp2
  refine wp_region_K [] [.val (.pointer (some ⟨n1, 0, none⟩)), .val (.pointer (some ⟨n1, 0, none⟩)), .val (.pointer (some ⟨n1, 0, none⟩)), .val (.iface T1 y1), .val (.pointer (some ⟨n2, 0, none⟩)), .val (.pointer (some ⟨n2, 0, none⟩)), .val (.pointer (some ⟨n2, 0, none⟩)), .val (.iface T2 y2), .val (.bool rr), .val (.bool (!rr))]
    [[.ini 0], [.frm 0 30], [.frm 1 31], [.frm 2 32], [.ini 1], [.frm 4 34], [.frm 5 35], [.frm 6 36], [.frm 3 33, .frm 7 37], [.frm 8 38]]
    mixed (by kernel_rfl) (by kernel_rfl) (allPre_of ⟨trivial, trivial, trivial, trivial, trivial, trivial, trivial, trivial, trivial, trivial, trivial⟩)
    ⟨OpOk.quiet rfl ?_, OpOk.quiet rfl ?_, OpOk.quiet rfl ?_, OpOk.quiet rfl ?_, OpOk.quiet rfl ?_, OpOk.quiet rfl ?_, OpOk.quiet rfl ?_, OpOk.quiet rfl ?_, OpOk.call rfl ?_, OpOk.quiet rfl ?_, trivial⟩ ?_
  · intro a u _ hf
    simp [facts, Need.fact, Ent.val, Act.eval] at hf
    go_simp
  · intro a u _ hf
    simp [facts, Need.fact, Ent.val, Act.eval] at hf
    go_simp
  · intro a u _ hf
    simp [facts, Need.fact, Ent.val, Act.eval] at hf
    go_simp
  · intro a u hG hf
    simp [facts, Need.fact, Ent.val, Act.eval] at hf
    have x0 := cellAt ((hG.block _ (lt_of_some hn1) (by simp)).trans hn1) 0
    simp only [List.getElem?_toArray, List.getElem?_cons_zero, List.getElem?_cons_succ] at x0
    go_simp
  · intro a u _ hf
    simp [facts, Need.fact, Ent.val, Act.eval] at hf
    go_simp
  · intro a u _ hf
    simp [facts, Need.fact, Ent.val, Act.eval] at hf
    go_simp
  · intro a u _ hf
    simp [facts, Need.fact, Ent.val, Act.eval] at hf
    go_simp
  · intro a u hG hf
    simp [facts, Need.fact, Ent.val, Act.eval] at hf
    have x0 := cellAt ((hG.block _ (lt_of_some hn2) (by simp)).trans hn2) 0
    simp only [List.getElem?_toArray, List.getElem?_cons_zero, List.getElem?_cons_succ] at x0
    go_simp
  · intro a u hG hf
    simp [facts, Need.fact, Ent.val, Act.eval] at hf
    refine ⟨_, _, by go_simp, (hrir u hG.below).mono ?_⟩
    rintro e w' ⟨rfl, hb⟩
    exact ⟨_, rfl, hb, rfl⟩
  · intro a u _ hf
    simp [facts, Need.fact, Ent.val, Act.eval] at hf
    go_simp
  intro u lw hw wc hKp hE hI hD
  simp only [allE, Ent.val] at hE
  obtain ⟨u0, u1, u2, u3, u4, u5, u6, u7, u8, u9, -⟩ := hE
  simp only [Nat.reduceAdd] at u0 u1 u2 u3 u4 u5 u6 u7 u8 u9
  simp only [allPut, Act.put, Nat.reduceAdd, u0, u1, u2, u3, u4, u5, u6, u7, u8, u9]
  try simp only [List.setIfInBounds_toArray, List.set_cons_zero, List.set_cons_succ]
  clear hI hD u0 u1 u2 u3 u4 u5 u6 u7 u8 u9
  have BB := hKp.below
  clear hKp hrir x0 z0
  cases rr with
  | false =>
    go_wp2
    go_ret
    exact ⟨rfl, BB⟩
  | true =>
    simp only [Bool.not_true]
    have x1 := cellAt ((BB.block n1 (lt_of_some hn1)).trans hn1) 1
    simp only [List.getElem?_toArray, List.getElem?_cons_zero, List.getElem?_cons_succ] at x1
    go_wp2
    go_loopw [5, 45] (fun t i wr => t = .bool true ∧ i = .int .i64 0 ∧ Below w.heap.size w wr) (fun _ _ _ => 0)
    case atStart => exact ⟨rfl, rfl, BB⟩
    case round =>
      obtain ⟨rfl, rfl, hB⟩ := hrel
      go_wp2
      go_ret
      exact ⟨rfl, hB⟩
theorem yRectE_c (n r0 r1 r2 r3 : Nat) (q : Bool) (w : World) (h : ∀ u k, Below w.heap.size w u → u.heap[k]? = some (.cells #[.iface 52 (.agg #[fl r0, fl r1, fl r2, fl r3]), .slice none 0 0] 90 (0, 0)) → Calls Tryz.prog 165 #[.pointer (some ⟨n, 0, none⟩), .pointer (some ⟨k, 0, none⟩)] u fun e u' => e = .returned (.bool q) ∧ Below u.heap.size u u') :
    Calls Tryz.prog 166 #[.pointer (some ⟨n, 0, none⟩), .agg #[fl r0, fl r1, fl r2, fl r3]] w fun e w' => e = .returned (.bool q) ∧ Below w.heap.size w w' := by
  have st0 := (Blk.nil w).push rfl #[fl r0, fl r1, fl r2, fl r3] 52
  have z0 := st0.cell 0 rfl 0
  have z1 := st0.cell 0 rfl 1
  have z2 := st0.cell 0 rfl 2
  have z3 := st0.cell 0 rfl 3
  simp only [List.getElem?_toArray, List.getElem?_cons_zero, List.getElem?_cons_succ] at z0 z1 z2 z3
  have st1 := st0.push (b := w.heap.size + 1) (by simp) #[.iface 52 (.agg #[fl r0, fl r1, fl r2, fl r3]), .slice none 0 0] 90
  have hk := st1.known 0 _ rfl
  go_enter Tryz.func166, Tryz.ntmps166
  go_wp2_with (go_at_call 165; refine JR.StopM.out ?_)
  refine ⟨?_⟩
  refine (h _ (w.heap.size + 1) st1.hb hk).mono ?_
  rintro e w1 ⟨rfl, hb⟩
  have st2 := st1.ext hb
  go_wp2
  go_ret
  exact ⟨rfl, st2.hb⟩
theorem pcr_q {n : Nat} {l : List (Int × Int)} {w : World} (P : PolM n l [] w) (hcv : ppV true l = true) {a b c d : Int} (h1 : a < c) (h2 : b < d) (h3 : Bn3 (a, b)) (h4 : Bn3 (c, d)) (u : World) (hu : Below w.heap.size w u) :
    Calls Tryz.prog 166 #[.pointer (some ⟨n, 0, none⟩), .agg #[fl (fb a), fl (fb b), fl (fb c), fl (fb d)]] u fun e w' => e = .returned (.bool (rchV l true (rl a b c d))) ∧ Below u.heap.size u w' :=
  yRectE_c n _ _ _ _ _ u fun z k hz hk => pcp_c (P.below (hu.trans (hz.mono hu.size))) hcv (G := []) ⟨rcF, _, _, none, 0, hk, rcRG h1 h2 (rl_b3 h3 h4) z, fun j x hx => by simp at hx, by simp⟩
set_option maxRecDepth 100000 in
set_option maxHeartbeats 8000000 in
theorem pcl_c {n1 : Nat} {l m : List (Int × Int)} {w : World} (P1 : PolM n1 l [] w) (hcv : ppV true l = true) (K : Nat) (hK : K ≤ 2) (hm12 : m.length ≤ 12) (hm2 : 2 ≤ m.length) (hm : ∀ p ∈ m, Bn3 p) (lo c : Nat) (S : SkP K false m 83 lo w.heap.size c w) :
    Calls Tryz.prog 164 #[.pointer (some ⟨n1, 0, none⟩), .pointer (some ⟨c, 0, none⟩)] w fun e w' => e = .returned (.bool (rchV l false m)) ∧ Below w.heap.size w w' := by
  obtain ⟨f1, T1, y1, A1, c1, hn1, R1, H1, l1⟩ := P1
  have x0 := cellAt hn1 0
  simp only [List.getElem?_toArray, List.getElem?_cons_zero, List.getElem?_cons_succ, List.length_nil] at x0 hn1
  have hrir := fun u hu => rclE_c R1 hcv K hK hm12 hm2 hm lo c S u hu
  obtain ⟨rr, hrr⟩ : ∃ r, rchV l false m = r := ⟨_, rfl⟩
  simp only [hrr] at hrir ⊢
  clear hrr H1 S
  have B0 := Below.refl w.heap.size w
  go_enter Tryz.func164, Tryz.ntmps164
  go_wp2_with (go_at_call 162; refine JR.StopM.out ?_)
  refine ⟨?_⟩
  refine (hrir _ B0).mono ?_
  rintro e w1 ⟨rfl, hb⟩
  have BB := B0.trans (hb.mono B0.size)
  clear hb B0 hrir x0
  cases rr with
  | false =>
    go_wp2
    go_ret
    exact ⟨rfl, BB⟩
  | true =>
    have x1 := cellAt ((BB.block n1 (lt_of_some hn1)).trans hn1) 1
    simp only [List.getElem?_toArray, List.getElem?_cons_zero, List.getElem?_cons_succ] at x1
    go_wp2
    go_loopw [32] (fun i wr => i = .int .i64 0 ∧ Below w.heap.size w wr) (fun _ _ => 0)
    case atStart => exact ⟨rfl, BB⟩
    case round =>
      obtain ⟨rfl, hB⟩ := hrel
      go_wp2
      go_ret
      exact ⟨rfl, hB⟩
theorem polE_c {n : Nat} {l : List (Int × Int)} {H : List (List (Int × Int))} {w : World} (P1 : PolM n l H w) :
    Calls Tryz.prog 98 #[.pointer (some ⟨n, 0, none⟩)] w fun e w' => e = .returned (.bool false) ∧ Below w.heap.size w w' := by
  obtain ⟨f1, T1, y1, A1, c1, hn1, R1, H1, l1⟩ := P1
  have x0 := cellAt hn1 0
  simp only [List.getElem?_toArray, List.getElem?_cons_zero, List.getElem?_cons_succ] at x0
  have hc := R1.r.cempty
  obtain ⟨mm, em⟩ := R1.r.mempty
  clear R1 H1
  go_enter Tryz.func98, Tryz.ntmps98
  go_wp2_with (with_reducible refine stopC f1.empty ?_)
  refine ⟨?_⟩
  refine (hc _ (Below.refl _ _)).mono ?_
  rintro e w1 ⟨rfl, hb⟩
  go_wp2
  go_ret
  exact ⟨rfl, hb⟩
theorem polR_c {n : Nat} {l : List (Int × Int)} {H : List (List (Int × Int))} {w : World} (P1 : PolM n l H w) :
    Calls Tryz.prog 99 #[.pointer (some ⟨n, 0, none⟩)] w fun e w' => e = .returned (.agg #[fl (fb (ppB true l).1), fl (fb (ppB true l).2.1), fl (fb (ppB true l).2.2.1), fl (fb (ppB true l).2.2.2)]) ∧ Below w.heap.size w w' := by
  obtain ⟨f1, T1, y1, A1, c1, hn1, R1, H1, l1⟩ := P1
  have st0 := ((Blk.nil w).add hn1).push rfl #[fl 0, fl 0, fl 0, fl 0] 52
  have x0 := st0.cell 1 rfl 0
  simp only [List.getElem?_toArray, List.getElem?_cons_zero, List.getElem?_cons_succ] at x0
  have hc := R1.r.crect
  obtain ⟨mm, em⟩ := R1.r.mrect
  generalize ppB true l = r at *
  clear R1 H1
  go_enter Tryz.func99, Tryz.ntmps99
  go_wp2_with (with_reducible refine stopC f1.rect ?_)
  refine ⟨?_⟩
  refine (hc _ st0.hb).mono ?_
  rintro e w1 ⟨rfl, hb⟩
  have st1 := st0.ext hb
  clear hb st0
  have d0 := st1.cell 0 rfl 0
  have d1 := st1.cell 0 rfl 1
  have d2 := st1.cell 0 rfl 2
  have d3 := st1.cell 0 rfl 3
  have f0 := fun o => st1.frozen 0 rfl o
  simp only [List.getElem?_toArray, List.getElem?_cons_zero, List.getElem?_cons_succ] at d0 d1 d2 d3
  go_wp2
  exact bodyPost_ret (v := .agg #[fl (fb r.1), fl (fb r.2.1), fl (fb r.2.2.1), fl (fb r.2.2.2)]) (by simp [results, Tryz.results99, go_sem, d0, d1, d2, d3]) rfl ⟨rfl, by
    iterate 4 refine Below.setCell ?_ (by first | exact Nat.le_refl _ | (show w.heap.size ≤ _; omega)) _
    exact st1.hb⟩
theorem ptRectU_c (x y : Nat) (w : World) : Calls Tryz.prog 95 #[.agg #[fl x, fl y]] w fun e w' => e = .returned (.agg #[fl x, fl y, fl x, fl y]) ∧ Below w.heap.size w w' := by
  go_enter Tryz.func95, Tryz.ntmps95
  go_wp2
  exact bodyPost_ret (v := .agg #[fl x, fl y, fl x, fl y]) (by simp [results, Tryz.results95, go_sem]) rfl ⟨rfl, (((Below.refl _ _).alloc (Nat.le_refl _) _).alloc (by simp) _)⟩
theorem eqRcU {a1 a2 a3 a4 c1 c2 c3 c4 : Nat} {A1 A2 A3 A4 C1 C2 C3 C4 : Int} (h1 : Rep a1 A1) (h2 : Rep a2 A2) (h3 : Rep a3 A3) (h4 : Rep a4 A4) (k1 : Rep c1 C1) (k2 : Rep c2 C2) (k3 : Rep c3 C3) (k4 : Rep c4 C4) {b : Bool} (hb : decide (A1 = C1 ∧ A2 = C2 ∧ A3 = C3 ∧ A4 = C4) = b) (u : World) :
    (binOp .eql 52 (.agg #[fl a1, fl a2, fl a3, fl a4]) (.agg #[fl c1, fl c2, fl c3, fl c4])).run Tryz.prog u = .ok (.bool b) u := by
  have o1 := oR h1 k1
  have o2 := oR h2 k2
  have o3 := oR h3 k3
  have o4 := oR h4 k4
  subst hb
  by_cases e1 : A1 = C1 <;> by_cases e2 : A2 = C2 <;> by_cases e3 : A3 = C3 <;> by_cases e4 : A4 = C4 <;> simp [go_sem, o1, o2, o3, o4, e1, e2, e3, e4]
set_option maxRecDepth 100000 in
set_option maxHeartbeats 4000000 in
theorem ppC_c (px py qx qy : Nat) (q : Bool) (w : World) (hpe : ∀ u, (binOp .eql 50 (.agg #[fl px, fl py]) (.agg #[fl qx, fl qy])).run Tryz.prog u = .ok (.bool q) u) :
    Calls Tryz.prog 87 #[.agg #[fl px, fl py], .agg #[fl qx, fl qy]] w fun e w' => e = .returned (.bool q) ∧ Below w.heap.size w w' := by
  have st0 := (((Blk.nil w).push (b := w.heap.size) rfl #[fl px, fl py] 50).push (b := w.heap.size + 1) (by simp) #[fl qx, fl qy] 50)
  have z00 := st0.cell 1 rfl 0
  have z01 := st0.cell 1 rfl 1
  have z10 := st0.cell 0 rfl 0
  have z11 := st0.cell 0 rfl 1
  simp only [List.getElem?_toArray, List.getElem?_cons_zero, List.getElem?_cons_succ] at z00 z01 z10 z11
  go_enter Tryz.func87, Tryz.ntmps87
  go_wp2
  go_ret
  exact ⟨rfl, st0.hb⟩
set_option maxRecDepth 100000 in
set_option maxHeartbeats 4000000 in
theorem prC_c (px py r0 r1 r2 r3 : Nat) (q : Bool) (w : World) (hpe : ∀ u, (binOp .eql 52 (.agg #[fl px, fl py, fl px, fl py]) (.agg #[fl r0, fl r1, fl r2, fl r3])).run Tryz.prog u = .ok (.bool q) u) :
    Calls Tryz.prog 89 #[.agg #[fl px, fl py], .agg #[fl r0, fl r1, fl r2, fl r3]] w fun e w' => e = .returned (.bool q) ∧ Below w.heap.size w w' := by
  have st0 := (((Blk.nil w).push (b := w.heap.size) rfl #[fl px, fl py] 50).push (b := w.heap.size + 1) (by simp) #[fl r0, fl r1, fl r2, fl r3] 52)
  have z00 := st0.cell 1 rfl 0
  have z01 := st0.cell 1 rfl 1
  have z10 := st0.cell 0 rfl 0
  have z11 := st0.cell 0 rfl 1
  have z12 := st0.cell 0 rfl 2
  have z13 := st0.cell 0 rfl 3
  simp only [List.getElem?_toArray, List.getElem?_cons_zero, List.getElem?_cons_succ] at z00 z01 z10 z11 z12 z13
  go_enter Tryz.func89, Tryz.ntmps89
  go_wp2
  refine wp_region_K [] [.val (.agg #[fl px, fl py]), .val (.agg #[fl px, fl py, fl px, fl py]), .val (.agg #[fl r0, fl r1, fl r2, fl r3]), .val (.bool q), .val (.bool q)]
    [[.ini 2], [.frm 0 5], [.ini 3], [.frm 1 6, .frm 2 7], [.frm 3 8]]
    mixed (by kernel_rfl) (by kernel_rfl) (allPre_of ⟨trivial, trivial, trivial, trivial, trivial, trivial⟩)
    ⟨OpOk.quiet rfl ?_, OpOk.call rfl ?_, OpOk.quiet rfl ?_, OpOk.quiet rfl ?_, OpOk.quiet rfl ?_, trivial⟩ ?_
  · intro a u hG hf
    simp [facts, Need.fact, Ent.val, Act.eval] at hf
    have stu := st0.keep hG (fun i x _ => by simp) (fun x hx => by simp at hx)
    have y0 := stu.cell 1 rfl 0
    have y1 := stu.cell 1 rfl 1
    simp only [List.getElem?_toArray, List.getElem?_cons_zero, List.getElem?_cons_succ] at y0 y1
    go_simp
  · intro a u hG hf
    simp [facts, Need.fact, Ent.val, Act.eval] at hf
    refine ⟨_, _, by go_simp, (ptRectU_c px py u).mono ?_⟩
    rintro e w' ⟨rfl, hb⟩
    exact ⟨_, rfl, hb, rfl⟩
  · intro a u hG hf
    simp [facts, Need.fact, Ent.val, Act.eval] at hf
    have stu := st0.keep hG (fun i x _ => by simp) (fun x hx => by simp at hx)
    have y0 := stu.cell 0 rfl 0
    have y1 := stu.cell 0 rfl 1
    have y2 := stu.cell 0 rfl 2
    have y3 := stu.cell 0 rfl 3
    simp only [List.getElem?_toArray, List.getElem?_cons_zero, List.getElem?_cons_succ] at y0 y1 y2 y3
    go_simp
  · intro a u _ hf
    simp [facts, Need.fact, Ent.val, Act.eval] at hf
    go_simp
  · intro a u _ hf
    simp [facts, Need.fact, Ent.val, Act.eval] at hf
    go_simp
  intro u lw hw wc hKp hE hI hD
  simp only [allE, Ent.val] at hE
  obtain ⟨u0, u1, u2, u3, u4, -⟩ := hE
  simp only [Nat.reduceAdd] at u0 u1 u2 u3 u4
  simp only [allPut, Act.put, Nat.reduceAdd, u0, u1, u2, u3, u4]
  try simp only [List.setIfInBounds_toArray, List.set_cons_zero, List.set_cons_succ]
  clear hI hD u0 u1 u2 u3 u4
  have st9 := st0.keep hKp (fun i x _ => by simp) (fun x hx => by simp at hx)
  go_wp2
  go_ret
  exact ⟨rfl, st9.hb⟩
set_option maxRecDepth 100000 in
set_option maxHeartbeats 4000000 in
theorem plC_c (px py r0 r1 r2 r3 c : Nat) (q : Bool) (w : World) (hem : ∀ u, Below w.heap.size w u → Calls Tryz.prog 96 #[.pointer (some ⟨c, 0, none⟩)] u fun e u' => e = .returned (.bool false) ∧ Below u.heap.size u u') (hrc : ∀ u, Below w.heap.size w u → Calls Tryz.prog 97 #[.pointer (some ⟨c, 0, none⟩)] u fun e u' => e = .returned (.agg #[fl r0, fl r1, fl r2, fl r3]) ∧ Below u.heap.size u u') (hpe : ∀ u, (binOp .eql 52 (.agg #[fl r0, fl r1, fl r2, fl r3]) (.agg #[fl px, fl py, fl px, fl py])).run Tryz.prog u = .ok (.bool q) u) :
    Calls Tryz.prog 86 #[.agg #[fl px, fl py], .pointer (some ⟨c, 0, none⟩)] w fun e w' => e = .returned (.bool q) ∧ Below w.heap.size w w' := by
  have st0 := ((Blk.nil w).push (b := w.heap.size) rfl #[fl px, fl py] 50)
  have z00 := st0.cell 0 rfl 0
  have z01 := st0.cell 0 rfl 1
  simp only [List.getElem?_toArray, List.getElem?_cons_zero, List.getElem?_cons_succ] at z00 z01
  go_enter Tryz.func86, Tryz.ntmps86
  go_wp2
  refine wp_region_K [] [.val (.pointer (some ⟨c, 0, none⟩)), .val (.pointer (some ⟨c, 0, none⟩)), .val (.pointer (some ⟨c, 0, none⟩)), .val (.bool false), .val (.bool true), .val (.bool true), .val (.pointer (some ⟨c, 0, none⟩)), .val (.pointer (some ⟨c, 0, none⟩)), .val (.pointer (some ⟨c, 0, none⟩)), .val (.agg #[fl r0, fl r1, fl r2, fl r3]), .val (.agg #[fl px, fl py]), .val (.agg #[fl px, fl py, fl px, fl py]), .val (.bool q), .val (.bool q), .val (.bool q)]
    [[.ini 1], [.frm 0 7], [.frm 1 8], [.frm 2 9], [.frm 3 10], [.frm 4 11], [.frm 5 12, .ini 1], [.frm 5 12, .frm 6 13], [.frm 5 12, .frm 7 14], [.frm 5 12, .frm 8 15], [.frm 5 12, .ini 2], [.frm 5 12, .frm 10 17], [.frm 5 12, .frm 9 16, .frm 11 18], [.frm 5 12, .frm 12 19], [.frm 13 20]]
    mixed (by kernel_rfl) (by kernel_rfl) (allPre_of ⟨trivial, trivial, trivial, trivial, trivial, trivial, trivial, trivial, trivial, trivial, trivial, trivial, trivial, trivial, trivial, trivial⟩)
    ⟨OpOk.quiet rfl ?_, OpOk.quiet rfl ?_, OpOk.quiet rfl ?_, OpOk.call rfl ?_, OpOk.quiet rfl ?_, OpOk.quiet rfl ?_, OpOk.quietG rfl (by kernel_rfl) (fun a w hf => by obtain ⟨h1, -⟩ := hf; exact h1.elim fun _ h => h.elim fun _ h => h) ?_, OpOk.quietG rfl (by kernel_rfl) (fun a w hf => by obtain ⟨h1, -⟩ := hf; exact h1.elim fun _ h => h.elim fun _ h => h) ?_, OpOk.quietG rfl (by kernel_rfl) (fun a w hf => by obtain ⟨h1, -⟩ := hf; exact h1.elim fun _ h => h.elim fun _ h => h) ?_, OpOk.callG rfl (by kernel_rfl) (fun a w hf => by obtain ⟨h1, -⟩ := hf; exact h1.elim fun _ h => h.elim fun _ h => h) ?_, OpOk.quietG rfl (by kernel_rfl) (fun a w hf => by obtain ⟨h1, -⟩ := hf; exact h1.elim fun _ h => h.elim fun _ h => h) ?_, OpOk.callG rfl (by kernel_rfl) (fun a w hf => by obtain ⟨h1, -⟩ := hf; exact h1.elim fun _ h => h.elim fun _ h => h) ?_, OpOk.quietG rfl (by kernel_rfl) (fun a w hf => by obtain ⟨h1, -⟩ := hf; exact h1.elim fun _ h => h.elim fun _ h => h) ?_, OpOk.quiet rfl ?_, OpOk.quiet rfl ?_, trivial⟩ ?_
  · intro a u _ hf
    simp [facts, Need.fact, Ent.val, Act.eval] at hf
    go_simp
  · intro a u _ hf
    simp [facts, Need.fact, Ent.val, Act.eval] at hf
    go_simp
  · intro a u _ hf
    simp [facts, Need.fact, Ent.val, Act.eval] at hf
    go_simp
  · intro a u hG hf
    simp [facts, Need.fact, Ent.val, Act.eval] at hf
    refine ⟨_, _, by go_simp, (hem u (st0.hb.trans (hG.below.mono st0.hb.size))).mono ?_⟩
    rintro e w' ⟨rfl, hb⟩
    exact ⟨_, rfl, hb, rfl⟩
  · intro a u _ hf
    simp [facts, Need.fact, Ent.val, Act.eval] at hf
    go_simp
  · intro a u _ hf
    simp [facts, Need.fact, Ent.val, Act.eval] at hf
    go_simp
  · intro a u _ hf
    simp [facts, Need.fact, Ent.val, Act.eval] at hf
    go_simp
  · intro a u _ hf
    simp [facts, Need.fact, Ent.val, Act.eval] at hf
    go_simp
  · intro a u _ hf
    simp [facts, Need.fact, Ent.val, Act.eval] at hf
    go_simp
  · intro a u hG hf
    simp [facts, Need.fact, Ent.val, Act.eval] at hf
    refine ⟨_, _, by go_simp, (hrc u (st0.hb.trans (hG.below.mono st0.hb.size))).mono ?_⟩
    rintro e w' ⟨rfl, hb⟩
    exact ⟨_, rfl, hb, rfl⟩
  · intro a u hG hf
    simp [facts, Need.fact, Ent.val, Act.eval] at hf
    have stu := st0.keep hG (fun i x _ => by simp) (fun x hx => by simp at hx)
    have y0 := stu.cell 0 rfl 0
    have y1 := stu.cell 0 rfl 1
    simp only [List.getElem?_toArray, List.getElem?_cons_zero, List.getElem?_cons_succ] at y0 y1
    go_simp
  · intro a u hG hf
    simp [facts, Need.fact, Ent.val, Act.eval] at hf
    refine ⟨_, _, by go_simp, (ptRectU_c px py u).mono ?_⟩
    rintro e w' ⟨rfl, hb⟩
    exact ⟨_, rfl, hb, rfl⟩
  · intro a u _ hf
    simp [facts, Need.fact, Ent.val, Act.eval] at hf
    go_simp
  · intro a u _ hf
    simp [facts, Need.fact, Ent.val, Act.eval] at hf
    go_simp
  · intro a u _ hf
    simp [facts, Need.fact, Ent.val, Act.eval] at hf
    go_simp
  intro u lw hw wc hKp hE hI hD
  simp only [allE, Ent.val] at hE
  obtain ⟨u0, u1, u2, u3, u4, u5, u6, u7, u8, u9, u10, u11, u12, u13, u14, -⟩ := hE
  simp only [Nat.reduceAdd] at u0 u1 u2 u3 u4 u5 u6 u7 u8 u9 u10 u11 u12 u13 u14
  simp only [allPut, Act.put, Nat.reduceAdd, u0, u1, u2, u3, u4, u5, u6, u7, u8, u9, u10, u11, u12, u13, u14]
  try simp only [List.setIfInBounds_toArray, List.set_cons_zero, List.set_cons_succ]
  clear hI hD u0 u1 u2 u3 u4 u5 u6 u7 u8 u9 u10 u11 u12 u13 u14
  have st9 := st0.keep hKp (fun i x _ => by simp) (fun x hx => by simp at hx)
  go_wp2
  go_ret
  exact ⟨rfl, st9.hb⟩
set_option maxRecDepth 100000 in
set_option maxHeartbeats 4000000 in
theorem pyC_c (px py r0 r1 r2 r3 c : Nat) (q : Bool) (w : World) (hem : ∀ u, Below w.heap.size w u → Calls Tryz.prog 98 #[.pointer (some ⟨c, 0, none⟩)] u fun e u' => e = .returned (.bool false) ∧ Below u.heap.size u u') (hrc : ∀ u, Below w.heap.size w u → Calls Tryz.prog 99 #[.pointer (some ⟨c, 0, none⟩)] u fun e u' => e = .returned (.agg #[fl r0, fl r1, fl r2, fl r3]) ∧ Below u.heap.size u u') (hpe : ∀ u, (binOp .eql 52 (.agg #[fl r0, fl r1, fl r2, fl r3]) (.agg #[fl px, fl py, fl px, fl py])).run Tryz.prog u = .ok (.bool q) u) :
    Calls Tryz.prog 88 #[.agg #[fl px, fl py], .pointer (some ⟨c, 0, none⟩)] w fun e w' => e = .returned (.bool q) ∧ Below w.heap.size w w' := by
  have st0 := ((Blk.nil w).push (b := w.heap.size) rfl #[fl px, fl py] 50)
  have z00 := st0.cell 0 rfl 0
  have z01 := st0.cell 0 rfl 1
  simp only [List.getElem?_toArray, List.getElem?_cons_zero, List.getElem?_cons_succ] at z00 z01
  go_enter Tryz.func88, Tryz.ntmps88
  go_wp2
  refine wp_region_K [] [.val (.pointer (some ⟨c, 0, none⟩)), .val (.bool false), .val (.bool true), .val (.bool true), .val (.pointer (some ⟨c, 0, none⟩)), .val (.agg #[fl r0, fl r1, fl r2, fl r3]), .val (.agg #[fl px, fl py]), .val (.agg #[fl px, fl py, fl px, fl py]), .val (.bool q), .val (.bool q), .val (.bool q)]
    [[.ini 1], [.frm 0 7], [.frm 1 8], [.frm 2 9], [.frm 3 10, .ini 1], [.frm 3 10, .frm 4 11], [.frm 3 10, .ini 2], [.frm 3 10, .frm 6 13], [.frm 3 10, .frm 5 12, .frm 7 14], [.frm 3 10, .frm 8 15], [.frm 9 16]]
    mixed (by kernel_rfl) (by kernel_rfl) (allPre_of ⟨trivial, trivial, trivial, trivial, trivial, trivial, trivial, trivial, trivial, trivial, trivial, trivial⟩)
    ⟨OpOk.quiet rfl ?_, OpOk.call rfl ?_, OpOk.quiet rfl ?_, OpOk.quiet rfl ?_, OpOk.quietG rfl (by kernel_rfl) (fun a w hf => by obtain ⟨h1, -⟩ := hf; exact h1.elim fun _ h => h.elim fun _ h => h) ?_, OpOk.callG rfl (by kernel_rfl) (fun a w hf => by obtain ⟨h1, -⟩ := hf; exact h1.elim fun _ h => h.elim fun _ h => h) ?_, OpOk.quietG rfl (by kernel_rfl) (fun a w hf => by obtain ⟨h1, -⟩ := hf; exact h1.elim fun _ h => h.elim fun _ h => h) ?_, OpOk.callG rfl (by kernel_rfl) (fun a w hf => by obtain ⟨h1, -⟩ := hf; exact h1.elim fun _ h => h.elim fun _ h => h) ?_, OpOk.quietG rfl (by kernel_rfl) (fun a w hf => by obtain ⟨h1, -⟩ := hf; exact h1.elim fun _ h => h.elim fun _ h => h) ?_, OpOk.quiet rfl ?_, OpOk.quiet rfl ?_, trivial⟩ ?_
  · intro a u _ hf
    simp [facts, Need.fact, Ent.val, Act.eval] at hf
    go_simp
  · intro a u hG hf
    simp [facts, Need.fact, Ent.val, Act.eval] at hf
    refine ⟨_, _, by go_simp, (hem u (st0.hb.trans (hG.below.mono st0.hb.size))).mono ?_⟩
    rintro e w' ⟨rfl, hb⟩
    exact ⟨_, rfl, hb, rfl⟩
  · intro a u _ hf
    simp [facts, Need.fact, Ent.val, Act.eval] at hf
    go_simp
  · intro a u _ hf
    simp [facts, Need.fact, Ent.val, Act.eval] at hf
    go_simp
  · intro a u _ hf
    simp [facts, Need.fact, Ent.val, Act.eval] at hf
    go_simp
  · intro a u hG hf
    simp [facts, Need.fact, Ent.val, Act.eval] at hf
    refine ⟨_, _, by go_simp, (hrc u (st0.hb.trans (hG.below.mono st0.hb.size))).mono ?_⟩
    rintro e w' ⟨rfl, hb⟩
    exact ⟨_, rfl, hb, rfl⟩
  · intro a u hG hf
    simp [facts, Need.fact, Ent.val, Act.eval] at hf
    have stu := st0.keep hG (fun i x _ => by simp) (fun x hx => by simp at hx)
    have y0 := stu.cell 0 rfl 0
    have y1 := stu.cell 0 rfl 1
    simp only [List.getElem?_toArray, List.getElem?_cons_zero, List.getElem?_cons_succ] at y0 y1
    go_simp
  · intro a u hG hf
    simp [facts, Need.fact, Ent.val, Act.eval] at hf
    refine ⟨_, _, by go_simp, (ptRectU_c px py u).mono ?_⟩
    rintro e w' ⟨rfl, hb⟩
    exact ⟨_, rfl, hb, rfl⟩
  · intro a u _ hf
    simp [facts, Need.fact, Ent.val, Act.eval] at hf
    go_simp
  · intro a u _ hf
    simp [facts, Need.fact, Ent.val, Act.eval] at hf
    go_simp
  · intro a u _ hf
    simp [facts, Need.fact, Ent.val, Act.eval] at hf
    go_simp
  intro u lw hw wc hKp hE hI hD
  simp only [allE, Ent.val] at hE
  obtain ⟨u0, u1, u2, u3, u4, u5, u6, u7, u8, u9, u10, -⟩ := hE
  simp only [Nat.reduceAdd] at u0 u1 u2 u3 u4 u5 u6 u7 u8 u9 u10
  simp only [allPut, Act.put, Nat.reduceAdd, u0, u1, u2, u3, u4, u5, u6, u7, u8, u9, u10]
  try simp only [List.setIfInBounds_toArray, List.set_cons_zero, List.set_cons_succ]
  clear hI hD u0 u1 u2 u3 u4 u5 u6 u7 u8 u9 u10
  have st9 := st0.keep hKp (fun i x _ => by simp) (fun x hx => by simp at hx)
  go_wp2
  go_ret
  exact ⟨rfl, st9.hb⟩
set_option maxRecDepth 100000 in
set_option maxHeartbeats 4000000 in
theorem rlC_c (s0 s1 s2 s3 r0 r1 r2 r3 c : Nat) (q : Bool) (w : World) (hem : ∀ u, Below w.heap.size w u → Calls Tryz.prog 96 #[.pointer (some ⟨c, 0, none⟩)] u fun e u' => e = .returned (.bool false) ∧ Below u.heap.size u u') (hrc : ∀ u, Below w.heap.size w u → Calls Tryz.prog 97 #[.pointer (some ⟨c, 0, none⟩)] u fun e u' => e = .returned (.agg #[fl r0, fl r1, fl r2, fl r3]) ∧ Below u.heap.size u u') (hcr : ∀ u, Calls Tryz.prog 24 #[.agg #[fl s0, fl s1, fl s2, fl s3], .agg #[fl r0, fl r1, fl r2, fl r3]] u fun e u' => e = .returned (.bool q) ∧ Below u.heap.size u u') :
    Calls Tryz.prog 126 #[.agg #[fl s0, fl s1, fl s2, fl s3], .pointer (some ⟨c, 0, none⟩)] w fun e w' => e = .returned (.bool q) ∧ Below w.heap.size w w' := by
  have st0 := ((Blk.nil w).push (b := w.heap.size) rfl #[fl s0, fl s1, fl s2, fl s3] 52)
  have z00 := st0.cell 0 rfl 0
  have z01 := st0.cell 0 rfl 1
  have z02 := st0.cell 0 rfl 2
  have z03 := st0.cell 0 rfl 3
  simp only [List.getElem?_toArray, List.getElem?_cons_zero, List.getElem?_cons_succ] at z00 z01 z02 z03
  go_enter Tryz.func126, Tryz.ntmps126
  go_wp2
  refine wp_region_K [] [.val (.pointer (some ⟨c, 0, none⟩)), .val (.pointer (some ⟨c, 0, none⟩)), .val (.pointer (some ⟨c, 0, none⟩)), .val (.bool false), .val (.bool true), .val (.bool true), .val (.agg #[fl s0, fl s1, fl s2, fl s3]), .val (.pointer (some ⟨c, 0, none⟩)), .val (.pointer (some ⟨c, 0, none⟩)), .val (.pointer (some ⟨c, 0, none⟩)), .val (.agg #[fl r0, fl r1, fl r2, fl r3]), .val (.bool q), .val (.bool q), .val (.bool q)]
    [[.ini 1], [.frm 0 7], [.frm 1 8], [.frm 2 9], [.frm 3 10], [.frm 4 11], [.frm 5 12, .ini 2], [.frm 5 12, .ini 1], [.frm 5 12, .frm 7 14], [.frm 5 12, .frm 8 15], [.frm 5 12, .frm 9 16], [.frm 5 12, .frm 6 13, .frm 10 17], [.frm 5 12, .frm 11 18], [.frm 12 19]]
    mixed (by kernel_rfl) (by kernel_rfl) (allPre_of ⟨trivial, trivial, trivial, trivial, trivial, trivial, trivial, trivial, trivial, trivial, trivial, trivial, trivial, trivial, trivial⟩)
    ⟨OpOk.quiet rfl ?_, OpOk.quiet rfl ?_, OpOk.quiet rfl ?_, OpOk.call rfl ?_, OpOk.quiet rfl ?_, OpOk.quiet rfl ?_, OpOk.quietG rfl (by kernel_rfl) (fun a w hf => by obtain ⟨h1, -⟩ := hf; exact h1.elim fun _ h => h.elim fun _ h => h) ?_, OpOk.quietG rfl (by kernel_rfl) (fun a w hf => by obtain ⟨h1, -⟩ := hf; exact h1.elim fun _ h => h.elim fun _ h => h) ?_, OpOk.quietG rfl (by kernel_rfl) (fun a w hf => by obtain ⟨h1, -⟩ := hf; exact h1.elim fun _ h => h.elim fun _ h => h) ?_, OpOk.quietG rfl (by kernel_rfl) (fun a w hf => by obtain ⟨h1, -⟩ := hf; exact h1.elim fun _ h => h.elim fun _ h => h) ?_, OpOk.callG rfl (by kernel_rfl) (fun a w hf => by obtain ⟨h1, -⟩ := hf; exact h1.elim fun _ h => h.elim fun _ h => h) ?_, OpOk.callG rfl (by kernel_rfl) (fun a w hf => by obtain ⟨h1, -⟩ := hf; exact h1.elim fun _ h => h.elim fun _ h => h) ?_, OpOk.quiet rfl ?_, OpOk.quiet rfl ?_, trivial⟩ ?_
  · intro a u _ hf
    simp [facts, Need.fact, Ent.val, Act.eval] at hf
    go_simp
  · intro a u _ hf
    simp [facts, Need.fact, Ent.val, Act.eval] at hf
    go_simp
  · intro a u _ hf
    simp [facts, Need.fact, Ent.val, Act.eval] at hf
    go_simp
  · intro a u hG hf
    simp [facts, Need.fact, Ent.val, Act.eval] at hf
    refine ⟨_, _, by go_simp, (hem u (st0.hb.trans (hG.below.mono st0.hb.size))).mono ?_⟩
    rintro e w' ⟨rfl, hb⟩
    exact ⟨_, rfl, hb, rfl⟩
  · intro a u _ hf
    simp [facts, Need.fact, Ent.val, Act.eval] at hf
    go_simp
  · intro a u _ hf
    simp [facts, Need.fact, Ent.val, Act.eval] at hf
    go_simp
  · intro a u hG hf
    simp [facts, Need.fact, Ent.val, Act.eval] at hf
    have stu := st0.keep hG (fun i x _ => by simp) (fun x hx => by simp at hx)
    have y0 := stu.cell 0 rfl 0
    have y1 := stu.cell 0 rfl 1
    have y2 := stu.cell 0 rfl 2
    have y3 := stu.cell 0 rfl 3
    simp only [List.getElem?_toArray, List.getElem?_cons_zero, List.getElem?_cons_succ] at y0 y1 y2 y3
    go_simp
  · intro a u _ hf
    simp [facts, Need.fact, Ent.val, Act.eval] at hf
    go_simp
  · intro a u _ hf
    simp [facts, Need.fact, Ent.val, Act.eval] at hf
    go_simp
  · intro a u _ hf
    simp [facts, Need.fact, Ent.val, Act.eval] at hf
    go_simp
  · intro a u hG hf
    simp [facts, Need.fact, Ent.val, Act.eval] at hf
    refine ⟨_, _, by go_simp, (hrc u (st0.hb.trans (hG.below.mono st0.hb.size))).mono ?_⟩
    rintro e w' ⟨rfl, hb⟩
    exact ⟨_, rfl, hb, rfl⟩
  · intro a u hG hf
    simp [facts, Need.fact, Ent.val, Act.eval] at hf
    refine ⟨_, _, by go_simp, (hcr u).mono ?_⟩
    rintro e w' ⟨rfl, hb⟩
    exact ⟨_, rfl, hb, rfl⟩
  · intro a u _ hf
    simp [facts, Need.fact, Ent.val, Act.eval] at hf
    go_simp
  · intro a u _ hf
    simp [facts, Need.fact, Ent.val, Act.eval] at hf
    go_simp
  intro u lw hw wc hKp hE hI hD
  simp only [allE, Ent.val] at hE
  obtain ⟨u0, u1, u2, u3, u4, u5, u6, u7, u8, u9, u10, u11, u12, u13, -⟩ := hE
  simp only [Nat.reduceAdd] at u0 u1 u2 u3 u4 u5 u6 u7 u8 u9 u10 u11 u12 u13
  simp only [allPut, Act.put, Nat.reduceAdd, u0, u1, u2, u3, u4, u5, u6, u7, u8, u9, u10, u11, u12, u13]
  try simp only [List.setIfInBounds_toArray, List.set_cons_zero, List.set_cons_succ]
  clear hI hD u0 u1 u2 u3 u4 u5 u6 u7 u8 u9 u10 u11 u12 u13
  have st9 := st0.keep hKp (fun i x _ => by simp) (fun x hx => by simp at hx)
  go_wp2
  go_ret
  exact ⟨rfl, st9.hb⟩
set_option maxRecDepth 100000 in
set_option maxHeartbeats 4000000 in
theorem ryC_c (s0 s1 s2 s3 r0 r1 r2 r3 c : Nat) (q : Bool) (w : World) (hem : ∀ u, Below w.heap.size w u → Calls Tryz.prog 98 #[.pointer (some ⟨c, 0, none⟩)] u fun e u' => e = .returned (.bool false) ∧ Below u.heap.size u u') (hrc : ∀ u, Below w.heap.size w u → Calls Tryz.prog 99 #[.pointer (some ⟨c, 0, none⟩)] u fun e u' => e = .returned (.agg #[fl r0, fl r1, fl r2, fl r3]) ∧ Below u.heap.size u u') (hcr : ∀ u, Calls Tryz.prog 24 #[.agg #[fl s0, fl s1, fl s2, fl s3], .agg #[fl r0, fl r1, fl r2, fl r3]] u fun e u' => e = .returned (.bool q) ∧ Below u.heap.size u u') :
    Calls Tryz.prog 127 #[.agg #[fl s0, fl s1, fl s2, fl s3], .pointer (some ⟨c, 0, none⟩)] w fun e w' => e = .returned (.bool q) ∧ Below w.heap.size w w' := by
  have st0 := ((Blk.nil w).push (b := w.heap.size) rfl #[fl s0, fl s1, fl s2, fl s3] 52)
  have z00 := st0.cell 0 rfl 0
  have z01 := st0.cell 0 rfl 1
  have z02 := st0.cell 0 rfl 2
  have z03 := st0.cell 0 rfl 3
  simp only [List.getElem?_toArray, List.getElem?_cons_zero, List.getElem?_cons_succ] at z00 z01 z02 z03
  go_enter Tryz.func127, Tryz.ntmps127
  go_wp2
  refine wp_region_K [] [.val (.pointer (some ⟨c, 0, none⟩)), .val (.bool false), .val (.bool true), .val (.bool true), .val (.agg #[fl s0, fl s1, fl s2, fl s3]), .val (.pointer (some ⟨c, 0, none⟩)), .val (.agg #[fl r0, fl r1, fl r2, fl r3]), .val (.bool q), .val (.bool q), .val (.bool q)]
    [[.ini 1], [.frm 0 7], [.frm 1 8], [.frm 2 9], [.frm 3 10, .ini 2], [.frm 3 10, .ini 1], [.frm 3 10, .frm 5 12], [.frm 3 10, .frm 4 11, .frm 6 13], [.frm 3 10, .frm 7 14], [.frm 8 15]]
    mixed (by kernel_rfl) (by kernel_rfl) (allPre_of ⟨trivial, trivial, trivial, trivial, trivial, trivial, trivial, trivial, trivial, trivial, trivial⟩)
    ⟨OpOk.quiet rfl ?_, OpOk.call rfl ?_, OpOk.quiet rfl ?_, OpOk.quiet rfl ?_, OpOk.quietG rfl (by kernel_rfl) (fun a w hf => by obtain ⟨h1, -⟩ := hf; exact h1.elim fun _ h => h.elim fun _ h => h) ?_, OpOk.quietG rfl (by kernel_rfl) (fun a w hf => by obtain ⟨h1, -⟩ := hf; exact h1.elim fun _ h => h.elim fun _ h => h) ?_, OpOk.callG rfl (by kernel_rfl) (fun a w hf => by obtain ⟨h1, -⟩ := hf; exact h1.elim fun _ h => h.elim fun _ h => h) ?_, OpOk.callG rfl (by kernel_rfl) (fun a w hf => by obtain ⟨h1, -⟩ := hf; exact h1.elim fun _ h => h.elim fun _ h => h) ?_, OpOk.quiet rfl ?_, OpOk.quiet rfl ?_, trivial⟩ ?_
  · intro a u _ hf
    simp [facts, Need.fact, Ent.val, Act.eval] at hf
    go_simp
  · intro a u hG hf
    simp [facts, Need.fact, Ent.val, Act.eval] at hf
    refine ⟨_, _, by go_simp, (hem u (st0.hb.trans (hG.below.mono st0.hb.size))).mono ?_⟩
    rintro e w' ⟨rfl, hb⟩
    exact ⟨_, rfl, hb, rfl⟩
  · intro a u _ hf
    simp [facts, Need.fact, Ent.val, Act.eval] at hf
    go_simp
  · intro a u _ hf
    simp [facts, Need.fact, Ent.val, Act.eval] at hf
    go_simp
  · intro a u hG hf
    simp [facts, Need.fact, Ent.val, Act.eval] at hf
    have stu := st0.keep hG (fun i x _ => by simp) (fun x hx => by simp at hx)
    have y0 := stu.cell 0 rfl 0
    have y1 := stu.cell 0 rfl 1
    have y2 := stu.cell 0 rfl 2
    have y3 := stu.cell 0 rfl 3
    simp only [List.getElem?_toArray, List.getElem?_cons_zero, List.getElem?_cons_succ] at y0 y1 y2 y3
    go_simp
  · intro a u _ hf
    simp [facts, Need.fact, Ent.val, Act.eval] at hf
    go_simp
  · intro a u hG hf
    simp [facts, Need.fact, Ent.val, Act.eval] at hf
    refine ⟨_, _, by go_simp, (hrc u (st0.hb.trans (hG.below.mono st0.hb.size))).mono ?_⟩
    rintro e w' ⟨rfl, hb⟩
    exact ⟨_, rfl, hb, rfl⟩
  · intro a u hG hf
    simp [facts, Need.fact, Ent.val, Act.eval] at hf
    refine ⟨_, _, by go_simp, (hcr u).mono ?_⟩
    rintro e w' ⟨rfl, hb⟩
    exact ⟨_, rfl, hb, rfl⟩
  · intro a u _ hf
    simp [facts, Need.fact, Ent.val, Act.eval] at hf
    go_simp
  · intro a u _ hf
    simp [facts, Need.fact, Ent.val, Act.eval] at hf
    go_simp
  intro u lw hw wc hKp hE hI hD
  simp only [allE, Ent.val] at hE
  obtain ⟨u0, u1, u2, u3, u4, u5, u6, u7, u8, u9, -⟩ := hE
  simp only [Nat.reduceAdd] at u0 u1 u2 u3 u4 u5 u6 u7 u8 u9
  simp only [allPut, Act.put, Nat.reduceAdd, u0, u1, u2, u3, u4, u5, u6, u7, u8, u9]
  try simp only [List.setIfInBounds_toArray, List.set_cons_zero, List.set_cons_succ]
  clear hI hD u0 u1 u2 u3 u4 u5 u6 u7 u8 u9
  have st9 := st0.keep hKp (fun i x _ => by simp) (fun x hx => by simp at hx)
  go_wp2
  go_ret
  exact ⟨rfl, st9.hb⟩
end Go.Proofs.YtlpibeloedfbdaaGreat
set_option linter.unusedSimpArgs false
set_option linter.unusedVariables false
/-! Contains of shapes; impl.Ask of shapes (printed by gen/ub.py). -/
namespace JR
open Go Go.RowKit PF
def aggU : Value → Array Value
  | .agg cs => cs
  | _ => #[]
end JR
namespace Go.Proofs.YtlpibeloedfbdaaGreat
open Go.RowKit PF JR
/-- what a shape contains of points (Vp), rectangles (VR), lines (VL) and polygons (VP) -/
structure ShcM (K : Nat) (g : SF) (T : TypeId) (y : Value) (Vp : Int × Int → Bool) (VR : Int → Int → Int → Int → Bool) (VL : List (Int × Int) → Bool) (VP : List (Int × Int) → List (List (Int × Int)) → Bool) (w : World) : Prop where
  mpt : Meth T "ContainsPoint" g.ipt
  mrc : Meth T "ContainsRect" g.irc
  mln : Meth T "ContainsLine" g.iln
  mpl : Meth T "ContainsPoly" g.ipl
  npt : ∀ u, (nilAhead 299 T y "ContainsPoint").run Tryz.prog u = .ok (some false) u
  nrc : ∀ u, (nilAhead 299 T y "ContainsRect").run Tryz.prog u = .ok (some false) u
  nln : ∀ u, (nilAhead 299 T y "ContainsLine").run Tryz.prog u = .ok (some false) u
  npl : ∀ u, (nilAhead 299 T y "ContainsPoly").run Tryz.prog u = .ok (some false) u
  cpt : ∀ p, Bn3 p → ∀ u, Below w.heap.size w u → Calls Tryz.prog g.ipt #[y, .agg #[fl (fb p.1), fl (fb p.2)]] u fun e u' => e = .returned (.bool (Vp p)) ∧ Below u.heap.size u u'
  crc : ∀ a b c d, a < c → b < d → Bn3 (a, b) → Bn3 (c, d) → ∀ u, Below w.heap.size w u → Calls Tryz.prog g.irc #[y, .agg #[fl (fb a), fl (fb b), fl (fb c), fl (fb d)]] u fun e u' => e = .returned (.bool (VR a b c d)) ∧ Below u.heap.size u u'
  cln : ∀ m, okLn m → ∀ c lo u, Below w.heap.size w u → SkP K false m 83 lo u.heap.size c u → Calls Tryz.prog g.iln #[y, .pointer (some ⟨c, 0, none⟩)] u fun e u' => e = .returned (.bool (VL m)) ∧ Below u.heap.size u u'
  cpl : ∀ m G n u, Below w.heap.size w u → PolS n m G u → Calls Tryz.prog g.ipl #[y, .pointer (some ⟨n, 0, none⟩)] u fun e u' => e = .returned (.bool (VP m G)) ∧ Below u.heap.size u u'
theorem ShcM.below {K : Nat} {g : SF} {T : TypeId} {y : Value} {Vp : Int × Int → Bool} {VR : Int → Int → Int → Int → Bool} {VL : List (Int × Int) → Bool} {VP : List (Int × Int) → List (List (Int × Int)) → Bool} {w w' : World} (H : ShcM K g T y Vp VR VL VP w) (hb : Below w.heap.size w w') : ShcM K g T y Vp VR VL VP w' :=
  { H with
    cpt := fun p hp u hu => H.cpt p hp u (hb.trans (hu.mono hb.size))
    crc := fun a b c d h1 h2 h3 h4 u hu => H.crc a b c d h1 h2 h3 h4 u (hb.trans (hu.mono hb.size))
    cln := fun m hm c lo u hu => H.cln m hm c lo u (hb.trans (hu.mono hb.size))
    cpl := fun m G n u hu => H.cpl m G n u (hb.trans (hu.mono hb.size)) }
def pC : SF := ⟨87, 89, 86, 88⟩
def rC : SF := ⟨22, 24, 126, 127⟩
def yC : SF := ⟨103, 166, 164, 165⟩
def boxEq (b : Int × Int × Int × Int) (p : Int × Int) : Bool := decide (b.1 = p.1 ∧ b.2.1 = p.2 ∧ b.2.2.1 = p.1 ∧ b.2.2.2 = p.2)
theorem okLn.bd {m : List (Int × Int)} (h : okLn m) : BdR (ppB false m) := ppBF_bd h.1 (fun p hp => (h.2.2 p hp).b)
theorem PolS.bd {n : Nat} {l : List (Int × Int)} {H : List (List (Int × Int))} {w : World} (S : PolS n l H w) : BdR (ppB true l) := ppB_bd (by have := S.l.1; omega) (fun p hp => (S.l.2.2 p hp).b)
theorem pShc {K : Nat} (hK : K ≤ 2) {p0 : Int × Int} (hp0 : Bn3 p0) (w : World) : ShcM K pC 50 (.agg #[fl (fb p0.1), fl (fb p0.2)]) (fun p => decide (p0.1 = p.1 ∧ p0.2 = p.2)) (fun a b c d => boxEq (a, b, c, d) p0) (fun m => boxEq (ppB false m) p0) (fun m _ => boxEq (ppB true m) p0) w where
  mpt := ⟨fun _ _ => by kernel_rfl, fun _ _ => by kernel_rfl⟩
  mrc := ⟨fun _ _ => by kernel_rfl, fun _ _ => by kernel_rfl⟩
  mln := ⟨fun _ _ => by kernel_rfl, fun _ _ => by kernel_rfl⟩
  mpl := ⟨fun _ _ => by kernel_rfl, fun _ _ => by kernel_rfl⟩
  npt := fun _ => by kernel_rfl
  nrc := fun _ => by kernel_rfl
  nln := fun _ => by kernel_rfl
  npl := fun _ => by kernel_rfl
  cpt := fun p hp u _ => by
    unfold Bn3 at hp0 hp
    exact ppC_c _ _ _ _ _ u (fun z => eqPt (fb_rep p0.1 (by omega)) (fb_rep p0.2 (by omega)) (fb_rep p.1 (by omega)) (fb_rep p.2 (by omega)) rfl z)
  crc := fun a b c d _ _ h3 h4 u _ => by
    unfold Bn3 at hp0 h3 h4
    simp only at h3 h4
    exact prC_c _ _ _ _ _ _ _ u (fun z => eqRcU (fb_rep p0.1 (by omega)) (fb_rep p0.2 (by omega)) (fb_rep p0.1 (by omega)) (fb_rep p0.2 (by omega)) (fb_rep a (by omega)) (fb_rep b (by omega)) (fb_rep c (by omega)) (fb_rep d (by omega)) (by unfold boxEq; exact decide_eq_decide.2 ⟨fun h => by simp only; omega, fun h => by simp only at h; omega⟩) z)
  cln := fun m hm c lo u _ S => by
    obtain ⟨g1, g2, g3, g4⟩ := hm.bd
    unfold Bn3 at hp0
    have R := bsRing K hK (cl := false) hm.2.1 hm.1 (fun h => (nomatch h)) (fun p hp => (hm.2.2 p hp).b) S
    exact plC_c _ _ _ _ _ _ c _ u (fun z hz => R.cempty z hz) (fun z hz => R.crect z hz) (fun z => eqRcU (fb_rep _ (by omega)) (fb_rep _ (by omega)) (fb_rep _ (by omega)) (fb_rep _ (by omega)) (fb_rep p0.1 (by omega)) (fb_rep p0.2 (by omega)) (fb_rep p0.1 (by omega)) (fb_rep p0.2 (by omega)) rfl z)
  cpl := fun m G n u _ S => by
    obtain ⟨g1, g2, g3, g4⟩ := S.bd
    unfold Bn3 at hp0
    exact pyC_c _ _ _ _ _ _ n _ u (fun z hz => polE_c (S.p.below hz)) (fun z hz => polR_c (S.p.below hz)) (fun z => eqRcU (fb_rep _ (by omega)) (fb_rep _ (by omega)) (fb_rep _ (by omega)) (fb_rep _ (by omega)) (fb_rep p0.1 (by omega)) (fb_rep p0.2 (by omega)) (fb_rep p0.1 (by omega)) (fb_rep p0.2 (by omega)) rfl z)
theorem rShc {K : Nat} (hK : K ≤ 2) {a b c d : Int} (h1 : a < c) (h2 : b < d) (h3 : Bn3 (a, b)) (h4 : Bn3 (c, d)) (w : World) : ShcM K rC 52 (.agg #[fl (fb a), fl (fb b), fl (fb c), fl (fb d)]) (fun p => decide (a ≤ p.1 ∧ p.1 ≤ c ∧ b ≤ p.2 ∧ p.2 ≤ d)) (fun a' b' c' d' => bcB (a, b, c, d) (a', b', c', d')) (fun m => bcB (a, b, c, d) (ppB false m)) (fun m _ => bcB (a, b, c, d) (ppB true m)) w where
  mpt := ⟨fun _ _ => by kernel_rfl, fun _ _ => by kernel_rfl⟩
  mrc := ⟨fun _ _ => by kernel_rfl, fun _ _ => by kernel_rfl⟩
  mln := ⟨fun _ _ => by kernel_rfl, fun _ _ => by kernel_rfl⟩
  mpl := ⟨fun _ _ => by kernel_rfl, fun _ _ => by kernel_rfl⟩
  npt := fun _ => by kernel_rfl
  nrc := fun _ => by kernel_rfl
  nln := fun _ => by kernel_rfl
  npl := fun _ => by kernel_rfl
  cpt := fun p hp u _ => by
    unfold Bn3 at hp h3 h4
    simp only at h3 h4
    exact rcp_c (fb_rep a (by omega)) (fb_rep b (by omega)) (fb_rep c (by omega)) (fb_rep d (by omega)) (fb_rep p.1 (by omega)) (fb_rep p.2 (by omega)) u
  crc := fun a' b' c' d' _ _ h5 h6 u _ => by
    unfold Bn3 at h3 h4 h5 h6
    simp only at h3 h4 h5 h6
    exact rcr_c (fb_rep a (by omega)) (fb_rep b (by omega)) (fb_rep c (by omega)) (fb_rep d (by omega)) (fb_rep a' (by omega)) (fb_rep b' (by omega)) (fb_rep c' (by omega)) (fb_rep d' (by omega)) u
  cln := fun m hm c0 lo u _ S => by
    obtain ⟨g1, g2, g3, g4⟩ := hm.bd
    unfold Bn3 at h3 h4
    simp only at h3 h4
    have R := bsRing K hK (cl := false) hm.2.1 hm.1 (fun h => (nomatch h)) (fun p hp => (hm.2.2 p hp).b) S
    exact rlC_c _ _ _ _ _ _ _ _ c0 _ u (fun z hz => R.cempty z hz) (fun z hz => R.crect z hz) (fun z => rcr_c (fb_rep a (by omega)) (fb_rep b (by omega)) (fb_rep c (by omega)) (fb_rep d (by omega)) (fb_rep _ (by omega)) (fb_rep _ (by omega)) (fb_rep _ (by omega)) (fb_rep _ (by omega)) z)
  cpl := fun m G n u _ S => by
    obtain ⟨g1, g2, g3, g4⟩ := S.bd
    unfold Bn3 at h3 h4
    simp only at h3 h4
    exact ryC_c _ _ _ _ _ _ _ _ n _ u (fun z hz => polE_c (S.p.below hz)) (fun z hz => polR_c (S.p.below hz)) (fun z => rcr_c (fb_rep a (by omega)) (fb_rep b (by omega)) (fb_rep c (by omega)) (fb_rep d (by omega)) (fb_rep _ (by omega)) (fb_rep _ (by omega)) (fb_rep _ (by omega)) (fb_rep _ (by omega)) z)
theorem PolS.cpt {n : Nat} {l : List (Int × Int)} {H : List (List (Int × Int))} {w : World} (S : PolS n l H w) {p : Int × Int} (hp : Bn3 p) (u : World) (hu : Below w.heap.size w u) :
    Calls Tryz.prog 103 #[.pointer (some ⟨n, 0, none⟩), .agg #[fl (fb p.1), fl (fb p.2)]] u fun e w' => e = .returned (.bool (polHas l H p)) ∧ Below u.heap.size u w' := by
  obtain ⟨⟨K, lo, hK, hP⟩, hl, hH, hm⟩ := S
  refine polHas_c K hK l H hl.k (fun x hx => (hH x hx).k) hm p hp.b (fun x hx k _ => ?_) n lo w hP u hu
  rcases hx with rfl | hx
  · exact ray_q3 hl.2.2 hp k
  · exact ray_q3 (hH x hx).2.2 hp k
theorem yShc {K : Nat} (hK : K ≤ 2) {n0 : Nat} {l : List (Int × Int)} {w : World} (S0 : PolS n0 l [] w) (hcv : ppV true l = true) : ShcM K yC 61 (.pointer (some ⟨n0, 0, none⟩)) (fun p => polHas l [] p) (fun a b c d => rchV l true (rl a b c d)) (fun m => rchV l false m) (fun m _ => rchV l true m) w where
  mpt := ⟨fun _ _ => by kernel_rfl, fun _ _ => by kernel_rfl⟩
  mrc := ⟨fun _ _ => by kernel_rfl, fun _ _ => by kernel_rfl⟩
  mln := ⟨fun _ _ => by kernel_rfl, fun _ _ => by kernel_rfl⟩
  mpl := ⟨fun _ _ => by kernel_rfl, fun _ _ => by kernel_rfl⟩
  npt := fun _ => by kernel_rfl
  nrc := fun _ => by kernel_rfl
  nln := fun _ => by kernel_rfl
  npl := fun _ => by kernel_rfl
  cpt := fun p hp u hu => S0.cpt hp u hu
  crc := fun a b c d h1 h2 h3 h4 u hu => pcr_q S0.p hcv h1 h2 h3 h4 u hu
  cln := fun m hm c lo u hu S => pcl_c (S0.p.below hu) hcv K hK hm.2.1 hm.1 hm.2.2 lo c S
  cpl := fun m G n u hu S => pcp_c (S0.p.below hu) hcv S.p
set_option maxRecDepth 100000 in
set_option maxHeartbeats 8000000 in
theorem ask_pt {K : Nat} (hK : K ≤ 2) {g h : SF} {T : TypeId} {Vp Cp : Int × Int → Bool} {VR CR : Int → Int → Int → Int → Bool} {VL CL : List (Int × Int) → Bool} {VP CP : List (Int × Int) → List (List (Int × Int)) → Bool} {w : World} (Ka : Int) (A0 A3 : Option Addr) (n0 c0 n3 c3 : Nat)
    (hsh : ∀ u ob, Below w.heap.size w u → u.heap[ob]? = some (.cells #[.int .u8 K, .int .i64 2] 77 (0, 0)) → Calls Tryz.prog 15 #[.agg #[.int .i64 Ka, .slice A0 n0 c0, .slice A3 n3 c3], .pointer (some ⟨ob, 0, none⟩)] u fun e u' => ∃ y, e = .returned (.iface T y) ∧ ShpM K g T y Vp VR VL VP u' ∧ ShcM K h T y Cp CR CL CP u' ∧ Below u.heap.size u u')
    (p : Int × Int) (hp : Bn3 p) (vb vhb : Value) (hvhb : ∃ A n c, vhb = .slice A n c) (hvb : SlP w vb [p]) :
    Calls Tryz.prog 8 #[.agg #[.int .i64 Ka, .slice A0 n0 c0, .slice A3 n3 c3], .agg #[.int .i64 0, vb, vhb], .int .i64 K, .int .i64 2] w fun e w' => e = .returned (.tuple #[.bool (Cp p), .bool (Vp p)]) ∧ Below w.heap.size w w' := by
  obtain ⟨A1, n1, c1, rfl⟩ : ∃ A n c, vb = .slice A n c := by obtain ⟨A, c, h, -⟩ := hvb; exact ⟨A, _, c, h⟩
  obtain ⟨A4, n4, c4, rfl⟩ := hvhb
  have st0 := ((Blk.nil w).push rfl #[.int .i64 Ka, .slice A0 n0 c0, .slice A3 n3 c3] 28).push (b := w.heap.size + 1) (by simp) #[.int .i64 0, .slice A1 n1 c1, .slice A4 n4 c4] 28
  go_enter Tryz.func8, Tryz.ntmps8
  go_wp2_with (go_at_call 14; refine JR.StopM.out ?_)
  refine ⟨?_⟩
  refine (index2_c K hK _).mono ?_
  rintro e w1 ⟨rfl, hw1⟩
  have st1 := st0.push (b := w.heap.size + 1 + 1) (by simp) #[.int .u8 K, .int .i64 2] 77
  rw [← hw1] at st1
  clear hw1 st0
  have x0 := st1.cell 2 rfl 0
  have x1 := st1.cell 2 rfl 1
  have x2 := st1.cell 2 rfl 2
  simp only [List.getElem?_toArray, List.getElem?_cons_zero, List.getElem?_cons_succ] at x0 x1 x2
  go_wp2_with (go_at_call 15; refine JR.StopM.out ?_)
  refine ⟨?_⟩
  refine (hsh w1 (w.heap.size + 1 + 1) st1.hb (st1.known 0 _ rfl)).mono ?_
  rintro e w2 ⟨y, rfl, HS, HC, hb⟩
  have st2 := st1.ext hb
  have hvb2 := hvb.below st2.hb
  clear hb st1 x0 x1 x2 hsh hvb
  have x0 := st2.cell 1 rfl 0
  have x1 := st2.cell 1 rfl 1
  have x2 := st2.cell 1 rfl 2
  simp only [List.getElem?_toArray, List.getElem?_cons_zero, List.getElem?_cons_succ] at x0 x1 x2
  obtain ⟨mm, em⟩ := HS.mpt
  obtain ⟨mm2, em2⟩ := HC.mpt
  go_wp2_with (go_at_call 17; refine JR.StopM.out ?_)
  refine ⟨?_⟩
  refine (cornerK_c 0 [p] 0 p rfl (by simp) _ _ w2 hvb2).mono ?_
  rintro e w3 ⟨rfl, hb3⟩
  have st3 := st2.ext hb3
  go_wp2_with (go_at_call 20; refine JR.StopM.out ?_)
  refine ⟨?_⟩
  refine (pt_c p.1 p.2 w3).mono ?_
  rintro e w4 ⟨rfl, hb4⟩
  have hb24 := hb3.trans (hb4.mono hb3.size)
  have st4 := (st3.ext hb4).push rfl #[fl (fb p.1), fl (fb p.2)] 50
  have hb25 := hb24.alloc hb24.size (.cells #[fl (fb p.1), fl (fb p.2)] 50)
  clear st2 st3 hb3 hb4 hb24 x0 x1 x2 hvb2
  go_wp2
  generalize hW5 : w4.alloc (.cells #[fl (fb p.1), fl (fb p.2)] 50) = W5 at *
  have hcp := fun u (h : Below W5.heap.size W5 u) => HC.cpt p hp u (hb25.trans (h.mono hb25.size))
  have hip := fun u (h : Below W5.heap.size W5 u) => HS.cpt p hp u (hb25.trans (h.mono hb25.size))
  generalize hrc : Cp p = rc at hcp
  generalize hrv : Vp p = rv at hip
  refine wp_region_K [] [.val (.iface T y), .val (.agg #[fl (fb p.1), fl (fb p.2)]), .val (.bool rc), .val (.iface T y), .val (.agg #[fl (fb p.1), fl (fb p.2)]), .val (.bool rv), .val (.bool rc), .val (.bool rv)]
    [[.ini 11], [.ini 15], [.frm 0 66, .frm 1 67], [.ini 11], [.ini 15], [.frm 3 69, .frm 4 70], [.frm 2 68], [.frm 5 71]]
    mixed (by kernel_rfl) (by kernel_rfl) (allPre_of ⟨trivial, trivial, trivial, trivial, trivial, trivial, trivial, trivial, trivial⟩)
    ⟨OpOk.quiet rfl ?_, OpOk.quiet rfl ?_, OpOk.call rfl ?_, OpOk.quiet rfl ?_, OpOk.quiet rfl ?_, OpOk.call rfl ?_, OpOk.quiet rfl ?_, OpOk.quiet rfl ?_, trivial⟩ ?_
  · intro a u _ hf
    simp [facts, Need.fact, Ent.val, Act.eval] at hf
    go_simp
  · intro a u hG hf
    simp [facts, Need.fact, Ent.val, Act.eval] at hf
    have stu := st4.keep hG (fun i x _ => by simp) (fun x hx => by simp at hx)
    have y0 := stu.cell 0 rfl 0
    have y1 := stu.cell 0 rfl 1
    simp only [List.getElem?_toArray, List.getElem?_cons_zero, List.getElem?_cons_succ] at y0 y1
    go_simp
  · intro a u hG hf
    simp [facts, Need.fact, Ent.val, Act.eval] at hf
    refine ⟨h.ipt, #[y, .agg #[fl (fb p.1), fl (fb p.2)]], by go_simp, (hcp u hG.below).mono ?_⟩
    rintro e w' ⟨rfl, hb⟩
    exact ⟨_, rfl, hb, rfl⟩
  · intro a u _ hf
    simp [facts, Need.fact, Ent.val, Act.eval] at hf
    go_simp
  · intro a u hG hf
    simp [facts, Need.fact, Ent.val, Act.eval] at hf
    have stu := st4.keep hG (fun i x _ => by simp) (fun x hx => by simp at hx)
    have y0 := stu.cell 0 rfl 0
    have y1 := stu.cell 0 rfl 1
    simp only [List.getElem?_toArray, List.getElem?_cons_zero, List.getElem?_cons_succ] at y0 y1
    go_simp
  · intro a u hG hf
    simp [facts, Need.fact, Ent.val, Act.eval] at hf
    refine ⟨g.ipt, #[y, .agg #[fl (fb p.1), fl (fb p.2)]], by go_simp, (hip u hG.below).mono ?_⟩
    rintro e w' ⟨rfl, hb⟩
    exact ⟨_, rfl, hb, rfl⟩
  · intro a u _ hf
    simp [facts, Need.fact, Ent.val, Act.eval] at hf
    go_simp
  · intro a u _ hf
    simp [facts, Need.fact, Ent.val, Act.eval] at hf
    go_simp
  intro u lw hw wc hKp hE hI hD
  simp only [allE, Ent.val] at hE
  obtain ⟨u0, u1, u2, u3, u4, u5, u6, u7, -⟩ := hE
  simp only [Nat.reduceAdd] at u0 u1 u2 u3 u4 u5 u6 u7
  simp only [allPut, Act.put, Nat.reduceAdd, u0, u1, u2, u3, u4, u5, u6, u7]
  try simp only [List.setIfInBounds_toArray, List.set_cons_zero, List.set_cons_succ]
  clear hI hD u0 u1 u2 u3 u4 u5 u6 u7
  have stz := st4.keep hKp (fun i x _ => by simp) (fun x hx => by simp at hx)
  go_wp2
  exact bodyPost_ret (v := .tuple #[.bool (rc), .bool (rv)]) (by simp [results, Tryz.results8, go_sem]) rfl ⟨by rw [hrc, hrv], stz.hb⟩
set_option maxRecDepth 100000 in
set_option maxHeartbeats 8000000 in
theorem ask_rc {K : Nat} (hK : K ≤ 2) {g h : SF} {T : TypeId} {Vp Cp : Int × Int → Bool} {VR CR : Int → Int → Int → Int → Bool} {VL CL : List (Int × Int) → Bool} {VP CP : List (Int × Int) → List (List (Int × Int)) → Bool} {w : World} (Ka : Int) (A0 A3 : Option Addr) (n0 c0 n3 c3 : Nat)
    (hsh : ∀ u ob, Below w.heap.size w u → u.heap[ob]? = some (.cells #[.int .u8 K, .int .i64 2] 77 (0, 0)) → Calls Tryz.prog 15 #[.agg #[.int .i64 Ka, .slice A0 n0 c0, .slice A3 n3 c3], .pointer (some ⟨ob, 0, none⟩)] u fun e u' => ∃ y, e = .returned (.iface T y) ∧ ShpM K g T y Vp VR VL VP u' ∧ ShcM K h T y Cp CR CL CP u' ∧ Below u.heap.size u u')
    (ra rb rc rd : Int) (h1 : ra < rc) (h2 : rb < rd) (h3 : Bn3 (ra, rb)) (h4 : Bn3 (rc, rd)) (vb vhb : Value) (hvhb : ∃ A n c, vhb = .slice A n c) (hvb : SlP w vb [(ra, rb), (rc, rd)]) :
    Calls Tryz.prog 8 #[.agg #[.int .i64 Ka, .slice A0 n0 c0, .slice A3 n3 c3], .agg #[.int .i64 1, vb, vhb], .int .i64 K, .int .i64 2] w fun e w' => e = .returned (.tuple #[.bool (CR ra rb rc rd), .bool (VR ra rb rc rd)]) ∧ Below w.heap.size w w' := by
  obtain ⟨A1, n1, c1, rfl⟩ : ∃ A n c, vb = .slice A n c := by obtain ⟨A, c, h, -⟩ := hvb; exact ⟨A, _, c, h⟩
  obtain ⟨A4, n4, c4, rfl⟩ := hvhb
  have st0 := ((Blk.nil w).push rfl #[.int .i64 Ka, .slice A0 n0 c0, .slice A3 n3 c3] 28).push (b := w.heap.size + 1) (by simp) #[.int .i64 1, .slice A1 n1 c1, .slice A4 n4 c4] 28
  go_enter Tryz.func8, Tryz.ntmps8
  go_wp2_with (go_at_call 14; refine JR.StopM.out ?_)
  refine ⟨?_⟩
  refine (index2_c K hK _).mono ?_
  rintro e w1 ⟨rfl, hw1⟩
  have st1 := st0.push (b := w.heap.size + 1 + 1) (by simp) #[.int .u8 K, .int .i64 2] 77
  rw [← hw1] at st1
  clear hw1 st0
  have x0 := st1.cell 2 rfl 0
  have x1 := st1.cell 2 rfl 1
  have x2 := st1.cell 2 rfl 2
  simp only [List.getElem?_toArray, List.getElem?_cons_zero, List.getElem?_cons_succ] at x0 x1 x2
  go_wp2_with (go_at_call 15; refine JR.StopM.out ?_)
  refine ⟨?_⟩
  refine (hsh w1 (w.heap.size + 1 + 1) st1.hb (st1.known 0 _ rfl)).mono ?_
  rintro e w2 ⟨y, rfl, HS, HC, hb⟩
  have st2 := st1.ext hb
  have hvb2 := hvb.below st2.hb
  clear hb st1 x0 x1 x2 hsh hvb
  have x0 := st2.cell 1 rfl 0
  have x1 := st2.cell 1 rfl 1
  have x2 := st2.cell 1 rfl 2
  simp only [List.getElem?_toArray, List.getElem?_cons_zero, List.getElem?_cons_succ] at x0 x1 x2
  obtain ⟨mm, em⟩ := HS.mrc
  obtain ⟨mm2, em2⟩ := HC.mrc
  go_wp2
  refine wp_region_K [] [.val (.agg #[.int .i64 1, .slice A1 n1 c1, .slice A4 n4 c4]), .val (.agg #[.int .i64 ra, .int .i64 rb]), .val (.agg #[.int .i64 1, .slice A1 n1 c1, .slice A4 n4 c4]), .val (.agg #[.int .i64 rc, .int .i64 rd]), .val (.agg #[.int .i64 ra, .int .i64 rb, .int .i64 rc, .int .i64 rd]), .val (.agg #[fl (fb ra), fl (fb rb), fl (fb rc), fl (fb rd)]), .made 52 4, .filled 12 #[fl (fb ra), fl (fb rb), fl (fb rc), fl (fb rd)] 52]
    [[.ini 5], [.frm 0 26], [.ini 5], [.frm 2 28], [.frm 1 27, .frm 3 29], [.frm 4 30], [], [.frm 6 12, .frm 5 31]]
    mixed (by kernel_rfl) (by kernel_rfl) (allPre_of ⟨trivial, trivial, trivial, trivial, trivial, trivial, trivial, trivial, trivial⟩)
    ⟨OpOk.quiet rfl ?_, OpOk.call rfl ?_, OpOk.quiet rfl ?_, OpOk.call rfl ?_, OpOk.quiet rfl ?_, OpOk.call rfl ?_, OpOk.made (cs := #[fl 0, fl 0, fl 0, fl 0]) rfl rfl ?_, OpOk.fillRow (k := 6) rfl rfl (by kernel_rfl) rfl (oldLt_of ⟨(fun _ h => (nomatch h)), (fun _ h => (nomatch h)), (fun _ h => (nomatch h)), (fun _ h => (nomatch h)), (fun _ h => (nomatch h)), (fun _ h => (nomatch h)), (fun _ h => (nomatch h)), (fun _ h => (nomatch h)), trivial⟩) (by kernel_rfl) (by simp [Value.oneCell']) (fun a w hf => ⟨hf.1, hf.2.1.elim fun _ h => h.elim fun _ h => h⟩) (fun _ _ _ h hb => Keep.setRow h (.inl hb)), trivial⟩ ?_
  · intro a u hG hf
    simp [facts, Need.fact, Ent.val, Act.eval] at hf
    have stu := st2.keep hG (fun i x _ => by simp) (fun x hx => by simp at hx)
    have y0 := stu.cell 1 rfl 0
    have y1 := stu.cell 1 rfl 1
    have y2 := stu.cell 1 rfl 2
    simp only [List.getElem?_toArray, List.getElem?_cons_zero, List.getElem?_cons_succ] at y0 y1 y2
    go_simp
  · intro a u hG hf
    simp [facts, Need.fact, Ent.val, Act.eval] at hf
    refine ⟨_, _, by go_simp, (cornerK_c 1 [(ra, rb), (rc, rd)] 0 (ra, rb) rfl (by simp) (.slice A1 n1 c1) (.slice A4 n4 c4) u (hvb2.below hG.below)).mono ?_⟩
    rintro e w' ⟨rfl, hb⟩
    exact ⟨_, rfl, hb, rfl⟩
  · intro a u hG hf
    simp [facts, Need.fact, Ent.val, Act.eval] at hf
    have stu := st2.keep hG (fun i x _ => by simp) (fun x hx => by simp at hx)
    have y0 := stu.cell 1 rfl 0
    have y1 := stu.cell 1 rfl 1
    have y2 := stu.cell 1 rfl 2
    simp only [List.getElem?_toArray, List.getElem?_cons_zero, List.getElem?_cons_succ] at y0 y1 y2
    go_simp
  · intro a u hG hf
    simp [facts, Need.fact, Ent.val, Act.eval] at hf
    refine ⟨_, _, by go_simp, (cornerK_c 1 [(ra, rb), (rc, rd)] 1 (rc, rd) rfl (by simp) (.slice A1 n1 c1) (.slice A4 n4 c4) u (hvb2.below hG.below)).mono ?_⟩
    rintro e w' ⟨rfl, hb⟩
    exact ⟨_, rfl, hb, rfl⟩
  · intro a u _ hf
    simp [facts, Need.fact, Ent.val, Act.eval] at hf
    go_simp
  · intro a u hG hf
    simp [facts, Need.fact, Ent.val, Act.eval] at hf
    refine ⟨_, _, by go_simp, (rect_c ra rb rc rd u).mono ?_⟩
    rintro e w' ⟨rfl, hb⟩
    exact ⟨_, rfl, hb, rfl⟩
  · intro a u _ _
    go_simp
  intro u lw hw w5 hKp hE hI hD
  simp [allE, allPut, Act.put, Act.eval, Ent.filledP, Ent.made, Ent.val] at hE
  obtain ⟨u0, u1, u2, u3, u4, u5, ⟨b9, u9, l9, h9, -⟩, ⟨c9, v9, g9⟩⟩ := hE
  obtain rfl : b9 = c9 := by rw [u9] at v9; simpa using v9
  simp only [allPut, Act.put, u0, u1, u2, u3, u4, u5, u9]
  try simp only [List.setIfInBounds_toArray, List.set_cons_zero, List.set_cons_succ]
  have hb25 := hKp.below
  clear u0 u1 u2 u3 u4 u5 u9 v9 hI hD l9 h9
  have st4 := (st2.keep hKp (fun i x _ => by simp) (fun x hx => by simp at hx)).add g9
  clear st2 x0 x1 x2 hvb2 g9 hKp
  have hcp := fun u (hh : Below w5.heap.size w5 u) => HC.crc ra rb rc rd h1 h2 h3 h4 u (hb25.trans (hh.mono hb25.size))
  have hip := fun u (hh : Below w5.heap.size w5 u) => HS.crc ra rb rc rd h1 h2 h3 h4 u (hb25.trans (hh.mono hb25.size))
  generalize hrc : CR ra rb rc rd = rcc at hcp
  generalize hrv : VR ra rb rc rd = rv at hip
  generalize fb ra = f0 at *
  generalize fb rb = f1 at *
  generalize fb rc = f2 at *
  generalize fb rd = f3 at *
  go_wp2
  refine wp_region_K [] [.val (.iface T y), .val (.agg #[fl f0, fl f1, fl f2, fl f3]), .val (.bool rcc), .val (.iface T y), .val (.agg #[fl f0, fl f1, fl f2, fl f3]), .val (.bool rv), .val (.bool rcc), .val (.bool rv)]
    [[.ini 11], [.ini 12], [.frm 0 32, .frm 1 33], [.ini 11], [.ini 12], [.frm 3 35, .frm 4 36], [.frm 2 34], [.frm 5 37]]
    mixed (by kernel_rfl) (by kernel_rfl) (allPre_of ⟨trivial, trivial, trivial, trivial, trivial, trivial, trivial, trivial, trivial⟩)
    ⟨OpOk.quiet rfl ?_, OpOk.quiet rfl ?_, OpOk.call rfl ?_, OpOk.quiet rfl ?_, OpOk.quiet rfl ?_, OpOk.call rfl ?_, OpOk.quiet rfl ?_, OpOk.quiet rfl ?_, trivial⟩ ?_
  · intro a u _ hf
    simp [facts, Need.fact, Ent.val, Act.eval] at hf
    go_simp
  · intro a u hG hf
    simp [facts, Need.fact, Ent.val, Act.eval] at hf
    have stu := st4.keep hG (fun i x _ => by simp) (fun x hx => by simp at hx)
    have y0 := stu.cell 0 rfl 0
    have y1 := stu.cell 0 rfl 1
    have y2 := stu.cell 0 rfl 2
    have y3 := stu.cell 0 rfl 3
    simp only [List.getElem?_toArray, List.getElem?_cons_zero, List.getElem?_cons_succ] at y0 y1 y2 y3
    go_simp
  · intro a u hG hf
    simp [facts, Need.fact, Ent.val, Act.eval] at hf
    refine ⟨h.irc, #[y, .agg #[fl f0, fl f1, fl f2, fl f3]], by go_simp, (hcp u hG.below).mono ?_⟩
    rintro e w' ⟨rfl, hb⟩
    exact ⟨_, rfl, hb, rfl⟩
  · intro a u _ hf
    simp [facts, Need.fact, Ent.val, Act.eval] at hf
    go_simp
  · intro a u hG hf
    simp [facts, Need.fact, Ent.val, Act.eval] at hf
    have stu := st4.keep hG (fun i x _ => by simp) (fun x hx => by simp at hx)
    have y0 := stu.cell 0 rfl 0
    have y1 := stu.cell 0 rfl 1
    have y2 := stu.cell 0 rfl 2
    have y3 := stu.cell 0 rfl 3
    simp only [List.getElem?_toArray, List.getElem?_cons_zero, List.getElem?_cons_succ] at y0 y1 y2 y3
    go_simp
  · intro a u hG hf
    simp [facts, Need.fact, Ent.val, Act.eval] at hf
    refine ⟨g.irc, #[y, .agg #[fl f0, fl f1, fl f2, fl f3]], by go_simp, (hip u hG.below).mono ?_⟩
    rintro e w' ⟨rfl, hb⟩
    exact ⟨_, rfl, hb, rfl⟩
  · intro a u _ hf
    simp [facts, Need.fact, Ent.val, Act.eval] at hf
    go_simp
  · intro a u _ hf
    simp [facts, Need.fact, Ent.val, Act.eval] at hf
    go_simp
  intro u lw hw wc hKp hE hI hD
  simp only [allE, Ent.val] at hE
  obtain ⟨u0, u1, u2, u3, u4, u5, u6, u7, -⟩ := hE
  simp only [Nat.reduceAdd] at u0 u1 u2 u3 u4 u5 u6 u7
  simp only [allPut, Act.put, Nat.reduceAdd, u0, u1, u2, u3, u4, u5, u6, u7]
  try simp only [List.setIfInBounds_toArray, List.set_cons_zero, List.set_cons_succ]
  clear hI hD u0 u1 u2 u3 u4 u5 u6 u7
  have stz := st4.keep hKp (fun i x _ => by simp) (fun x hx => by simp at hx)
  go_wp2
  exact bodyPost_ret (v := .tuple #[.bool (rcc), .bool (rv)]) (by simp [results, Tryz.results8, go_sem]) rfl ⟨by rw [hrc, hrv], stz.hb⟩
set_option maxRecDepth 100000 in
set_option maxHeartbeats 8000000 in
theorem ask_ln {K : Nat} (hK : K ≤ 2) {g h : SF} {T : TypeId} {Vp Cp : Int × Int → Bool} {VR CR : Int → Int → Int → Int → Bool} {VL CL : List (Int × Int) → Bool} {VP CP : List (Int × Int) → List (List (Int × Int)) → Bool} {w : World} (Ka : Int) (A0 A3 : Option Addr) (n0 c0 n3 c3 : Nat)
    (hsh : ∀ u ob, Below w.heap.size w u → u.heap[ob]? = some (.cells #[.int .u8 K, .int .i64 2] 77 (0, 0)) → Calls Tryz.prog 15 #[.agg #[.int .i64 Ka, .slice A0 n0 c0, .slice A3 n3 c3], .pointer (some ⟨ob, 0, none⟩)] u fun e u' => ∃ y, e = .returned (.iface T y) ∧ ShpM K g T y Vp VR VL VP u' ∧ ShcM K h T y Cp CR CL CP u' ∧ Below u.heap.size u u')
    (m : List (Int × Int)) (hm : okLn m) (vb vhb : Value) (hvhb : ∃ A n c, vhb = .slice A n c) (hvb : SlP w vb m) :
    Calls Tryz.prog 8 #[.agg #[.int .i64 Ka, .slice A0 n0 c0, .slice A3 n3 c3], .agg #[.int .i64 2, vb, vhb], .int .i64 K, .int .i64 2] w fun e w' => e = .returned (.tuple #[.bool (CL m), .bool (VL m)]) ∧ Below w.heap.size w w' := by
  obtain ⟨A1, n1, c1, rfl⟩ : ∃ A n c, vb = .slice A n c := by obtain ⟨A, c, h, -⟩ := hvb; exact ⟨A, _, c, h⟩
  obtain ⟨A4, n4, c4, rfl⟩ := hvhb
  have st0 := ((Blk.nil w).push rfl #[.int .i64 Ka, .slice A0 n0 c0, .slice A3 n3 c3] 28).push (b := w.heap.size + 1) (by simp) #[.int .i64 2, .slice A1 n1 c1, .slice A4 n4 c4] 28
  go_enter Tryz.func8, Tryz.ntmps8
  go_wp2_with (go_at_call 14; refine JR.StopM.out ?_)
  refine ⟨?_⟩
  refine (index2_c K hK _).mono ?_
  rintro e w1 ⟨rfl, hw1⟩
  have st1 := st0.push (b := w.heap.size + 1 + 1) (by simp) #[.int .u8 K, .int .i64 2] 77
  rw [← hw1] at st1
  clear hw1 st0
  have x0 := st1.cell 2 rfl 0
  have x1 := st1.cell 2 rfl 1
  have x2 := st1.cell 2 rfl 2
  simp only [List.getElem?_toArray, List.getElem?_cons_zero, List.getElem?_cons_succ] at x0 x1 x2
  go_wp2_with (go_at_call 15; refine JR.StopM.out ?_)
  refine ⟨?_⟩
  refine (hsh w1 (w.heap.size + 1 + 1) st1.hb (st1.known 0 _ rfl)).mono ?_
  rintro e w2 ⟨y, rfl, HS, HC, hb⟩
  have st2 := st1.ext hb
  have hvb2 := hvb.below st2.hb
  clear hb st1 x0 x1 x2 hsh hvb
  have x0 := st2.cell 1 rfl 0
  have x1 := st2.cell 1 rfl 1
  have x2 := st2.cell 1 rfl 2
  simp only [List.getElem?_toArray, List.getElem?_cons_zero, List.getElem?_cons_succ] at x0 x1 x2
  obtain ⟨mm, em⟩ := HS.mln
  obtain ⟨mm2, em2⟩ := HC.mln
  have hob := st2.known 0 _ rfl
  go_wp2_with (go_at_call 19; refine JR.StopM.out ?_)
  refine ⟨?_⟩
  refine (pts_c m (by have := hm.2.1; omega) _ w2 hvb2).mono ?_
  rintro e w3 ⟨v1, rfl, hq, hb3⟩
  have st3 := st2.ext hb3
  have hob3 := (hb3.block _ (lt_of_some hob)).trans hob
  obtain ⟨Ay, cy, rfl⟩ := hq.len
  clear x0 x1 x2
  go_wp2_with (go_at_call 18; refine JR.StopM.out ?_)
  refine ⟨?_⟩
  refine (newLineK_c K m _ (.pointer (some ⟨w.heap.size + 1 + 1, 0, none⟩)) w3 (fun z hz => makeSeriesK_c K hK false m hm.2.1 hm.1 (fun q hq => (hm.2.2 q hq).b) (w.heap.size + 1 + 1) _ w2.heap.size w3.heap.size z hz.size ((hz.block _ (lt_of_some hob3)).trans hob3) (hq.below hz))).mono ?_
  rintro e w4 ⟨n2, rfl, hS2, hb4⟩
  have hb24 := hb3.trans (hb4.mono hb3.size)
  have st4 := st3.ext hb4
  have hS4 : SkP K false m 83 w3.heap.size w4.heap.size n2 w4 := hS2.narrow
  clear st2 st3 hob hob3 hq hb3 hb4 hvb2 hS2
  go_wp2_with (with_reducible refine stopC h.iln ?_)
  refine ⟨?_⟩
  refine (HC.cln m hm n2 w3.heap.size w4 hb24 hS4).mono ?_
  rintro e w5 ⟨rfl, hb5⟩
  have st5 := st4.ext hb5
  have hS5 := (hS4.below hb5).wide (Nat.le_refl _) hb5.size
  have hb25 := hb24.trans (hb5.mono hb24.size)
  go_wp2_with (with_reducible refine stopC g.iln ?_)
  refine ⟨?_⟩
  refine (HS.cln m hm n2 w3.heap.size w5 hb25 hS5).mono ?_
  rintro e w6 ⟨rfl, hb6⟩
  have st6 := st5.ext hb6
  go_wp2
  exact bodyPost_ret (v := .tuple #[.bool (CL m), .bool (VL m)]) (by simp [results, Tryz.results8, go_sem]) rfl ⟨rfl, st6.hb⟩
set_option maxRecDepth 100000 in
set_option maxHeartbeats 8000000 in
theorem ask_pl {K : Nat} (hK : K ≤ 2) {g h : SF} {T : TypeId} {Vp Cp : Int × Int → Bool} {VR CR : Int → Int → Int → Int → Bool} {VL CL : List (Int × Int) → Bool} {VP CP : List (Int × Int) → List (List (Int × Int)) → Bool} {w : World} (Ka : Int) (A0 A3 : Option Addr) (n0 c0 n3 c3 : Nat)
    (hsh : ∀ u ob, Below w.heap.size w u → u.heap[ob]? = some (.cells #[.int .u8 K, .int .i64 2] 77 (0, 0)) → Calls Tryz.prog 15 #[.agg #[.int .i64 Ka, .slice A0 n0 c0, .slice A3 n3 c3], .pointer (some ⟨ob, 0, none⟩)] u fun e u' => ∃ y, e = .returned (.iface T y) ∧ ShpM K g T y Vp VR VL VP u' ∧ ShcM K h T y Cp CR CL CP u' ∧ Below u.heap.size u u')
    (m : List (Int × Int)) (G : List (List (Int × Int))) (hm : okRn m) (hG0 : ∀ x ∈ G, okRn x) (hGl : G.length ≤ 1000) (vb vhb : Value) (hvhb0 : SlH w vhb G) (hvhb : ∃ A n c, vhb = .slice A n c) (hvb : SlP w vb m) :
    Calls Tryz.prog 8 #[.agg #[.int .i64 Ka, .slice A0 n0 c0, .slice A3 n3 c3], .agg #[.int .i64 3, vb, vhb], .int .i64 K, .int .i64 2] w fun e w' => e = .returned (.tuple #[.bool (CP m G), .bool (VP m G)]) ∧ Below w.heap.size w w' := by
  obtain ⟨A1, n1, c1, rfl⟩ : ∃ A n c, vb = .slice A n c := by obtain ⟨A, c, h, -⟩ := hvb; exact ⟨A, _, c, h⟩
  obtain ⟨A4, n4, c4, rfl⟩ := hvhb
  have st0 := ((Blk.nil w).push rfl #[.int .i64 Ka, .slice A0 n0 c0, .slice A3 n3 c3] 28).push (b := w.heap.size + 1) (by simp) #[.int .i64 3, .slice A1 n1 c1, .slice A4 n4 c4] 28
  go_enter Tryz.func8, Tryz.ntmps8
  go_wp2_with (go_at_call 14; refine JR.StopM.out ?_)
  refine ⟨?_⟩
  refine (index2_c K hK _).mono ?_
  rintro e w1 ⟨rfl, hw1⟩
  have st1 := st0.push (b := w.heap.size + 1 + 1) (by simp) #[.int .u8 K, .int .i64 2] 77
  rw [← hw1] at st1
  clear hw1 st0
  have x0 := st1.cell 2 rfl 0
  have x1 := st1.cell 2 rfl 1
  have x2 := st1.cell 2 rfl 2
  simp only [List.getElem?_toArray, List.getElem?_cons_zero, List.getElem?_cons_succ] at x0 x1 x2
  go_wp2_with (go_at_call 15; refine JR.StopM.out ?_)
  refine ⟨?_⟩
  refine (hsh w1 (w.heap.size + 1 + 1) st1.hb (st1.known 0 _ rfl)).mono ?_
  rintro e w2 ⟨y, rfl, HS, HC, hb⟩
  have st2 := st1.ext hb
  have hvb2 := hvb.below st2.hb
  have hvh2 := hvhb0.below st2.hb
  clear hvhb0
  clear hb st1 x0 x1 x2 hsh hvb
  have x0 := st2.cell 1 rfl 0
  have x1 := st2.cell 1 rfl 1
  have x2 := st2.cell 1 rfl 2
  simp only [List.getElem?_toArray, List.getElem?_cons_zero, List.getElem?_cons_succ] at x0 x1 x2
  obtain ⟨mm, em⟩ := HS.mpl
  obtain ⟨mm2, em2⟩ := HC.mpl
  have hob := st2.known 0 _ rfl
  go_wp2_with (go_at_call 15; refine JR.StopM.out ?_)
  refine ⟨?_⟩
  refine (shapedKH_c K hK m G hm.k (fun x hx => (hG0 x hx).k) hGl (w.heap.size + 1 + 1) (.slice A1 n1 c1) (.slice A4 n4 c4) w2 hob hvb2 hvh2).mono ?_
  rintro e w4 ⟨n2, rfl, hP, hb24⟩
  have hta : ∀ u, (Instr.typeAssert (.iface 61 (.pointer (some ⟨n2, 0, none⟩))) 47 61 false).run Tryz.prog u = .ok (.pointer (some ⟨n2, 0, none⟩)) u := fun u => by kernel_rfl
  have st4 := st2.ext hb24
  have hS4 : PolS n2 m G w4 := ⟨⟨K, _, hK, hP⟩, hm, hG0, hGl⟩
  clear st2 hob hvb2 hvh2 hP x0 x1 x2
  go_wp2_with (with_reducible refine stopC h.ipl ?_)
  refine ⟨?_⟩
  refine (HC.cpl m G n2 w4 hb24 hS4).mono ?_
  rintro e w5 ⟨rfl, hb5⟩
  have st5 := st4.ext hb5
  have hS5 := hS4.below hb5
  have hb25 := hb24.trans (hb5.mono hb24.size)
  go_wp2_with (with_reducible refine stopC g.ipl ?_)
  refine ⟨?_⟩
  refine (HS.cpl m G n2 w5 hb25 hS5).mono ?_
  rintro e w6 ⟨rfl, hb6⟩
  have st6 := st5.ext hb6
  go_wp2
  exact bodyPost_ret (v := .tuple #[.bool (CP m G), .bool (VP m G)]) (by simp [results, Tryz.results8, go_sem]) rfl ⟨rfl, st6.hb⟩
/-- whether a point, a rectangle or a convex polygon contains a shape -/
def hdV (K : Int) (l : List (Int × Int)) (J : Int) (m : List (Int × Int)) (G : List (List (Int × Int))) : Bool :=
  if K = 0 then byK J m G (fun p => decide ((at' l 0).1 = p.1 ∧ (at' l 0).2 = p.2)) (fun a b c d => boxEq (a, b, c, d) (at' l 0)) (fun m => boxEq (ppB false m) (at' l 0)) (fun m _ => boxEq (ppB true m) (at' l 0))
  else if K = 1 then byK J m G (fun p => decide ((at' l 0).1 ≤ p.1 ∧ p.1 ≤ (at' l 1).1 ∧ (at' l 0).2 ≤ p.2 ∧ p.2 ≤ (at' l 1).2)) (fun a b c d => bcB ((at' l 0).1, (at' l 0).2, (at' l 1).1, (at' l 1).2) (a, b, c, d)) (fun m => bcB ((at' l 0).1, (at' l 0).2, (at' l 1).1, (at' l 1).2) (ppB false m)) (fun m _ => bcB ((at' l 0).1, (at' l 0).2, (at' l 1).1, (at' l 1).2) (ppB true m))
  else byK J m G (fun p => polHas l [] p) (fun a b c d => rchV l true (rl a b c d)) (fun m => rchV l false m) (fun m _ => rchV l true m)
/-- a point, a rectangle, or a convex polygon without holes -/
def CvOk (K : Int) (l : List (Int × Int)) (H : List (List (Int × Int))) : Prop := K = 0 ∨ K = 1 ∨ (K = 3 ∧ H = [] ∧ ppV true l = true)
theorem ask_any {K : Nat} (hK : K ≤ 2) {g h : SF} {T : TypeId} {Vp Cp : Int × Int → Bool} {VR CR : Int → Int → Int → Int → Bool} {VL CL : List (Int × Int) → Bool} {VP CP : List (Int × Int) → List (List (Int × Int)) → Bool} {w : World} (Ka : Int) (A0 A3 : Option Addr) (n0 c0 n3 c3 : Nat)
    (hsh : ∀ u ob, Below w.heap.size w u → u.heap[ob]? = some (.cells #[.int .u8 K, .int .i64 2] 77 (0, 0)) → Calls Tryz.prog 15 #[.agg #[.int .i64 Ka, .slice A0 n0 c0, .slice A3 n3 c3], .pointer (some ⟨ob, 0, none⟩)] u fun e u' => ∃ y, e = .returned (.iface T y) ∧ ShpM K g T y Vp VR VL VP u' ∧ ShcM K h T y Cp CR CL CP u' ∧ Below u.heap.size u u')
    (J : Int) (m : List (Int × Int)) (G : List (List (Int × Int))) (hJ : ShOk J m G) (vb vhb : Value) (hvb : SlP w vb m) (hvhb : SlH w vhb G) :
    Calls Tryz.prog 8 #[.agg #[.int .i64 Ka, .slice A0 n0 c0, .slice A3 n3 c3], .agg #[.int .i64 J, vb, vhb], .int .i64 K, .int .i64 2] w fun e w' => e = .returned (.tuple #[.bool (byK J m G Cp CR CL CP), .bool (byK J m G Vp VR VL VP)]) ∧ Below w.heap.size w w' := by
  obtain ⟨hb, h3, hG, hJ⟩ := hJ
  have hvh : ∃ A n c, vhb = .slice A n c := by obtain ⟨A, c, h, -⟩ := hvhb; exact ⟨A, _, c, h⟩
  rcases hJ with ⟨rfl, p, rfl⟩ | ⟨rfl, a, b, c, d, rfl, h1, h2⟩ | ⟨rfl, h1, h2⟩ | ⟨rfl, h1, h2⟩
  · exact ask_pt hK Ka A0 A3 n0 c0 n3 c3 hsh p (hb p (by simp)) vb vhb hvh hvb
  · exact ask_rc hK Ka A0 A3 n0 c0 n3 c3 hsh a b c d h1 h2 (hb _ (by simp)) (hb _ (by simp)) vb vhb hvh hvb
  · exact ask_ln hK Ka A0 A3 n0 c0 n3 c3 hsh m ⟨h1, h2, hb⟩ vb vhb hvh hvb
  · exact ask_pl hK Ka A0 A3 n0 c0 n3 c3 hsh m G ⟨h1, h2, hb⟩ hG (by omega) vb vhb hvhb hvh hvb
/-- **impl.Ask, the outer shape a point, a rectangle or a convex polygon, exactly** -/
theorem ask_cv {X : Nat} (hX : X ≤ 2) (K : Int) (l : List (Int × Int)) (H : List (List (Int × Int))) (h : ShOk K l H) (hcv : CvOk K l H) (J : Int) (m : List (Int × Int)) (G : List (List (Int × Int))) (hJ : ShOk J m G) (va vha vb vhb : Value) (w : World)
    (hva : SlP w va l) (hvha : SlH w vha H) (hvb : SlP w vb m) (hvhb : SlH w vhb G) :
    Calls Tryz.prog 8 #[.agg #[.int .i64 K, va, vha], .agg #[.int .i64 J, vb, vhb], .int .i64 X, .int .i64 2] w fun e w' => e = .returned (.tuple #[.bool (hdV K l J m G), .bool (mtV K l H J m G)]) ∧ Below w.heap.size w w' := by
  obtain ⟨hb, h3, hG, hK⟩ := h
  obtain ⟨A0, n0, c0, rfl⟩ : ∃ A n c, va = .slice A n c := by obtain ⟨A, c, h, -⟩ := hva; exact ⟨A, _, c, h⟩
  obtain ⟨A3, n3, c3, rfl⟩ : ∃ A n c, vha = .slice A n c := by obtain ⟨A, c, h, -⟩ := hvha; exact ⟨A, _, c, h⟩
  rcases hK with ⟨rfl, p, rfl⟩ | ⟨rfl, a, b, c, d, rfl, h1, h2⟩ | ⟨rfl, h1, h2⟩ | ⟨rfl, h1, h2⟩
  · rw [show mtV 0 _ H J m G = _ from if_pos rfl, show hdV 0 _ J m G = _ from if_pos rfl]
    refine ask_any hX 0 A0 A3 n0 c0 n3 c3 (g := pF) (h := pC) (T := 50) (fun u ob hu ho => (shaped0_c p.1 p.2 _ _ _ u (hva.below hu)).mono ?_) J m G hJ vb vhb hvb hvhb
    rintro e u' ⟨rfl, hb'⟩
    exact ⟨_, rfl, pShp hX (hb p (by simp)) u', pShc hX (hb p (by simp)) u', hb'⟩
  · rw [show mtV 1 _ H J m G = _ from (if_neg (by decide)).trans (if_pos rfl), show hdV 1 _ J m G = _ from (if_neg (by decide)).trans (if_pos rfl)]
    refine ask_any hX 1 A0 A3 n0 c0 n3 c3 (g := rF) (h := rC) (T := 52) (fun u ob hu ho => (shaped1_c a b c d _ _ _ u (hva.below hu)).mono ?_) J m G hJ vb vhb hvb hvhb
    rintro e u' ⟨rfl, hb'⟩
    exact ⟨_, rfl, rShp h1 h2 (hb _ (by simp)) (hb _ (by simp)) u', rShc hX h1 h2 (hb _ (by simp)) (hb _ (by simp)) u', hb'⟩
  · exfalso
    rcases hcv with h | h | ⟨h, -⟩ <;> cases h
  · obtain ⟨rfl, hv⟩ : H = [] ∧ ppV true l = true := by
      rcases hcv with h | h | ⟨-, h⟩
      · cases h
      · cases h
      · exact h
    rw [show mtV 3 _ [] J m G = _ from (if_neg (by decide)).trans ((if_neg (by decide)).trans (if_neg (by decide))), show hdV 3 _ J m G = _ from (if_neg (by decide)).trans (if_neg (by decide))]
    refine ask_any hX 3 A0 A3 n0 c0 n3 c3 (g := yF) (h := yC) (T := 61) (fun u ob hu ho => (shapedKH_c X hX l [] (okRn.k ⟨h1, h2, hb⟩) (fun x hx => (hG x hx).k) (by omega) ob _ _ u ho (hva.below hu) (hvha.below hu)).mono ?_) J m G hJ vb vhb hvb hvhb
    rintro e u' ⟨n, rfl, hS, hb'⟩
    exact ⟨_, rfl, yShp hX ⟨⟨X, _, hX, hS⟩, ⟨h1, h2, hb⟩, hG, by omega⟩, yShc hX ⟨⟨X, _, hX, hS⟩, ⟨h1, h2, hb⟩, hG, by omega⟩ hv, hb'⟩
end Go.Proofs.YtlpibeloedfbdaaGreat
