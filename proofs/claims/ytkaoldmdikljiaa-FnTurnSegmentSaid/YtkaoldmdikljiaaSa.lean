import Derived.Test.YtkaoldmdikljiaaIs
import Derived.Test.YtkaoldmdikljiaaJc
set_option linter.unusedSimpArgs false
set_option linter.unusedVariables false
namespace Go.Proofs.Ytkaoldmdikljiaa
open Go.RowKit PF JR

/-- the answer of SegmentAsk, cell by cell -/
def SaA (Ax Ay Bx By Cx Cy Dx Dy : Int) (v : Value) : Prop := ∃ ans : Bool, v = .bool ans ∧ (ovl Ax Ay Bx By Cx Cy Dx Dy = false → ans = meets Ax Ay Bx By Cx Cy Dx Dy)
def SaB (q1 q2 q3 : Bool) (Ax Ay Bx By Cx Cy Dx Dy : Int) (cs : Array Value) : Prop := ∃ ans : Bool, cs = #[.bool q1, .bool q3, .bool (q1 && q2), .bool ans, .int .i64 (min Ax Bx), .int .i64 (min Ay By), .int .i64 (max Ax Bx), .int .i64 (max Ay By)] ∧ (ovl Ax Ay Bx By Cx Cy Dx Dy = false → ans = meets Ax Ay Bx By Cx Cy Dx Dy)
def SaskV (Ax Ay Bx By Cx Cy Dx Dy : Int) (ans : Bool) : Array Value := #[.bool (rcOn Ax Ay Bx By Cx Cy), .bool (decide (side Ax Ay Bx By Cx Cy = 0)), .bool (rcOn Ax Ay Bx By Cx Cy && rcOn Ax Ay Bx By Dx Dy), .bool ans, .int .i64 (min Ax Bx), .int .i64 (min Ay By), .int .i64 (max Ax Bx), .int .i64 (max Ay By)]
def SaskP (Ax Ay Bx By Cx Cy Dx Dy : Int) (w : World) (e : Ending) (w' : World) : Prop :=
  ∃ ans : Bool, e = .returned (.agg (SaskV Ax Ay Bx By Cx Cy Dx Dy ans)) ∧ (ovl Ax Ay Bx By Cx Cy Dx Dy = false → ans = meets Ax Ay Bx By Cx Cy Dx Dy) ∧ Below w.heap.size w w'
theorem SaskP.mk {Ax Ay Bx By Cx Cy Dx Dy : Int} {w w' : World} {e : Ending} (ans : Bool) (h1 : ovl Ax Ay Bx By Cx Cy Dx Dy = false → ans = meets Ax Ay Bx By Cx Cy Dx Dy) (h : e = .returned (.agg (SaskV Ax Ay Bx By Cx Cy Dx Dy ans))) (h2 : Below w.heap.size w w') : SaskP Ax Ay Bx By Cx Cy Dx Dy w e w' := ⟨ans, h, h1, h2⟩
theorem _root_.PF.stop_region0 {P : Program} {id : Nat} {ops : Array Oper} {Q : Exit → Act → World → Prop} {a : Act} {w : World} (h : Stop0 ((Code.region id ops true).wp P Q a w)) : (Code.region id ops true).wp P Q a w := h.out
set_option maxHeartbeats 4000000 in
set_option maxRecDepth 100000 in
theorem sask_c (Ax Ay Bx By Cx Cy Dx Dy : Int) (b1 : -12288 ≤ Ax ∧ Ax ≤ 12288 ∧ -12288 ≤ Ay ∧ Ay ≤ 12288 ∧ -12288 ≤ Bx ∧ Bx ≤ 12288 ∧ -12288 ≤ By ∧ By ≤ 12288) (b2 : -12288 ≤ Cx ∧ Cx ≤ 12288 ∧ -12288 ≤ Cy ∧ Cy ≤ 12288 ∧ -12288 ≤ Dx ∧ Dx ≤ 12288 ∧ -12288 ≤ Dy ∧ Dy ≤ 12288) (w : World) :
    Calls Try.prog 15 #[.agg #[.int .i64 Ax, .int .i64 Ay], .agg #[.int .i64 Bx, .int .i64 By], .agg #[.int .i64 Cx, .int .i64 Cy], .agg #[.int .i64 Dx, .int .i64 Dy]] w (SaskP Ax Ay Bx By Cx Cy Dx Dy w) := by
  have rAx := fb_rep Ax (by omega)
  have rAy := fb_rep Ay (by omega)
  have rBx := fb_rep Bx (by omega)
  have rBy := fb_rep By (by omega)
  have rCx := fb_rep Cx (by omega)
  have rCy := fb_rep Cy (by omega)
  have rDx := fb_rep Dx (by omega)
  have rDy := fb_rep Dy (by omega)
  have hcn := fun u => scp_c rAx rAy rBx rBy rCx rCy (by omega) u
  have hcl := fun u => col_c rAx rAy rBx rBy rCx rCy (by omega) u
  have hcs := fun u => scs_c rAx rAy rBx rBy rCx rCy rDx rDy (by omega) (by omega) u
  have his := fun u => sis_c rAx rAy rBx rBy rCx rCy rDx rDy b1 b2 u
  have hsr := fun u => sgr_c rAx rAy rBx rBy u
  have hco := fun u => corn_c (ite_min rAx rBx) (ite_min rAy rBy) (ite_max rAx rBx) (ite_max rAy rBy) (fun h1 h2 w => from_c h1 h2 w) u
  obtain ⟨q1, hq1⟩ : ∃ q, rcOn Ax Ay Bx By Cx Cy = q := ⟨_, rfl⟩
  obtain ⟨q2, hq2⟩ : ∃ q, rcOn Ax Ay Bx By Dx Dy = q := ⟨_, rfl⟩
  obtain ⟨q3, hq3⟩ : ∃ q, decide (side Ax Ay Bx By Cx Cy = 0) = q := ⟨_, rfl⟩
  rw [hq1] at hcn
  rw [hq1, hq2] at hcs
  rw [hq3] at hcl
  generalize fl (if Bx < Ax then fb Bx else fb Ax) = k0 at *
  generalize fl (if By < Ay then fb By else fb Ay) = k1 at *
  generalize fl (if Bx < Ax then fb Ax else fb Bx) = k2 at *
  generalize fl (if By < Ay then fb Ay else fb By) = k3 at *
  have st0 := (((((Blk.nil w).push rfl #[.int .i64 Ax, .int .i64 Ay] 25).push (b := w.heap.size + 1) (by simp) #[.int .i64 Bx, .int .i64 By] 25).push (b := w.heap.size + 1 + 1) (by simp) #[.int .i64 Cx, .int .i64 Cy] 25).push (b := w.heap.size + 1 + 1 + 1) (by simp) #[.int .i64 Dx, .int .i64 Dy] 25).push (b := w.heap.size + 1 + 1 + 1 + 1) (by simp) #[.bool false, .bool false, .bool false, .bool false, .int .i64 0, .int .i64 0, .int .i64 0, .int .i64 0] 49
  have za0 := st0.cell 4 rfl 0
  have za1 := st0.cell 4 rfl 1
  have zb0 := st0.cell 3 rfl 0
  have zb1 := st0.cell 3 rfl 1
  have zc0 := st0.cell 2 rfl 0
  have zc1 := st0.cell 2 rfl 1
  have zd0 := st0.cell 1 rfl 0
  have zd1 := st0.cell 1 rfl 1
  simp only [List.getElem?_toArray, List.getElem?_cons_zero, List.getElem?_cons_succ] at za0 za1 zb0 zb1 zc0 zc1 zd0 zd1
  go_enter Try.func15, Try.ntmps15
  go_wp2
  refine wp_region_K [] [.val (.agg #[.int .i64 Ax, .int .i64 Ay]),
      .val (.agg #[fl (fb Ax), fl (fb Ay)]),
      .val (.agg #[.int .i64 Bx, .int .i64 By]),
      .val (.agg #[fl (fb Bx), fl (fb By)]),
      .val (.agg #[fl (fb Ax), fl (fb Ay), fl (fb Bx), fl (fb By)]),
      .val (.agg #[.int .i64 Cx, .int .i64 Cy]),
      .val (.agg #[fl (fb Cx), fl (fb Cy)]),
      .val (.agg #[.int .i64 Dx, .int .i64 Dy]),
      .val (.agg #[fl (fb Dx), fl (fb Dy)]),
      .val (.agg #[fl (fb Cx), fl (fb Cy), fl (fb Dx), fl (fb Dy)]),
      .made 70 4,
      .made 70 4,
      .filled 9 #[fl (fb Ax), fl (fb Ay), fl (fb Bx), fl (fb By)] 70,
      .filled 10 #[fl (fb Cx), fl (fb Cy), fl (fb Dx), fl (fb Dy)] 70]
    [[.ini 4], [.frm 0 11], [.ini 5], [.frm 2 13], [.frm 1 12, .frm 3 14], [.ini 6], [.frm 5 16], [.ini 7], [.frm 7 18], [.frm 6 17, .frm 8 19], [], [], [.frm 10 9, .frm 4 15], [.frm 11 10, .frm 9 20]]
    mixed (by kernel_rfl) (by kernel_rfl) (allPre_of ⟨trivial, trivial, trivial, trivial, trivial, trivial, trivial, trivial, trivial, trivial, trivial, trivial, trivial, trivial, trivial⟩)
    ⟨OpOk.quiet rfl ?_,
      OpOk.call rfl ?_,
      OpOk.quiet rfl ?_,
      OpOk.call rfl ?_,
      OpOk.quiet rfl ?_,
      OpOk.quiet rfl ?_,
      OpOk.call rfl ?_,
      OpOk.quiet rfl ?_,
      OpOk.call rfl ?_,
      OpOk.quiet rfl ?_,
      OpOk.made (cs := #[fl 0, fl 0, fl 0, fl 0]) rfl rfl ?_,
      OpOk.made (cs := #[fl 0, fl 0, fl 0, fl 0]) rfl rfl ?_,
      OpOk.fillRow (k := 10) rfl rfl (by kernel_rfl) rfl (oldLt_of ⟨(fun _ h => (nomatch h)), (fun _ h => (nomatch h)), (fun _ h => (nomatch h)), (fun _ h => (nomatch h)), (fun _ h => (nomatch h)), (fun _ h => (nomatch h)), (fun _ h => (nomatch h)), (fun _ h => (nomatch h)), (fun _ h => (nomatch h)), (fun _ h => (nomatch h)), (fun _ h => (nomatch h)), (fun _ h => (nomatch h)), (fun _ h => (nomatch h)), (fun _ h => (nomatch h)), trivial⟩) (by kernel_rfl) (by simp [Value.oneCell']) (fun a w hf => ⟨hf.1, hf.2.1.elim fun _ h => h.elim fun _ h => h⟩) (fun _ _ _ h hb => Keep.setRow h (.inl hb)),
      OpOk.fillRow (k := 11) rfl rfl (by kernel_rfl) rfl (oldLt_of ⟨(fun _ h => (nomatch h)), (fun _ h => (nomatch h)), (fun _ h => (nomatch h)), (fun _ h => (nomatch h)), (fun _ h => (nomatch h)), (fun _ h => (nomatch h)), (fun _ h => (nomatch h)), (fun _ h => (nomatch h)), (fun _ h => (nomatch h)), (fun _ h => (nomatch h)), (fun _ h => (nomatch h)), (fun _ h => (nomatch h)), (fun _ h => (nomatch h)), (fun _ h => (nomatch h)), trivial⟩) (by kernel_rfl) (by simp [Value.oneCell']) (fun a w hf => ⟨hf.1, hf.2.1.elim fun _ h => h.elim fun _ h => h⟩) (fun _ _ _ h hb => Keep.setRow h (.inl hb)), trivial⟩ ?_
  · intro a u hG hf
    simp [facts, Need.fact, Act.eval] at hf
    have hc := True.intro
    have ya0 := (hG.cell (p := ⟨w.heap.size, 0, none⟩) (st0.lt 4 rfl) (by simp)).trans za0
    have ya1 := (hG.cell (p := ⟨w.heap.size, 1, none⟩) (st0.lt 4 rfl) (by simp)).trans za1
    have yb0 := (hG.cell (p := ⟨w.heap.size + 1, 0, none⟩) (st0.lt 3 rfl) (by simp)).trans zb0
    have yb1 := (hG.cell (p := ⟨w.heap.size + 1, 1, none⟩) (st0.lt 3 rfl) (by simp)).trans zb1
    have yc0 := (hG.cell (p := ⟨w.heap.size + 1 + 1, 0, none⟩) (st0.lt 2 rfl) (by simp)).trans zc0
    have yc1 := (hG.cell (p := ⟨w.heap.size + 1 + 1, 1, none⟩) (st0.lt 2 rfl) (by simp)).trans zc1
    have yd0 := (hG.cell (p := ⟨w.heap.size + 1 + 1 + 1, 0, none⟩) (st0.lt 1 rfl) (by simp)).trans zd0
    have yd1 := (hG.cell (p := ⟨w.heap.size + 1 + 1 + 1, 1, none⟩) (st0.lt 1 rfl) (by simp)).trans zd1

    go_simp
  · intro a u _ hf
    simp [facts, Need.fact, Ent.val, Act.eval] at hf
    refine ⟨_, _, by go_simp, (pt_c Ax Ay _).mono ?_⟩
    rintro e w' ⟨rfl, hb⟩
    exact ⟨_, rfl, hb, rfl⟩
  · intro a u hG hf
    simp [facts, Need.fact, Act.eval] at hf
    have hc := True.intro
    have ya0 := (hG.cell (p := ⟨w.heap.size, 0, none⟩) (st0.lt 4 rfl) (by simp)).trans za0
    have ya1 := (hG.cell (p := ⟨w.heap.size, 1, none⟩) (st0.lt 4 rfl) (by simp)).trans za1
    have yb0 := (hG.cell (p := ⟨w.heap.size + 1, 0, none⟩) (st0.lt 3 rfl) (by simp)).trans zb0
    have yb1 := (hG.cell (p := ⟨w.heap.size + 1, 1, none⟩) (st0.lt 3 rfl) (by simp)).trans zb1
    have yc0 := (hG.cell (p := ⟨w.heap.size + 1 + 1, 0, none⟩) (st0.lt 2 rfl) (by simp)).trans zc0
    have yc1 := (hG.cell (p := ⟨w.heap.size + 1 + 1, 1, none⟩) (st0.lt 2 rfl) (by simp)).trans zc1
    have yd0 := (hG.cell (p := ⟨w.heap.size + 1 + 1 + 1, 0, none⟩) (st0.lt 1 rfl) (by simp)).trans zd0
    have yd1 := (hG.cell (p := ⟨w.heap.size + 1 + 1 + 1, 1, none⟩) (st0.lt 1 rfl) (by simp)).trans zd1

    go_simp
  · intro a u _ hf
    simp [facts, Need.fact, Ent.val, Act.eval] at hf
    refine ⟨_, _, by go_simp, (pt_c Bx By _).mono ?_⟩
    rintro e w' ⟨rfl, hb⟩
    exact ⟨_, rfl, hb, rfl⟩
  · intro a u _ hf
    simp [facts, Need.fact, Ent.val, Act.eval] at hf
    go_simp
  · intro a u hG hf
    simp [facts, Need.fact, Act.eval] at hf
    have hc := True.intro
    have ya0 := (hG.cell (p := ⟨w.heap.size, 0, none⟩) (st0.lt 4 rfl) (by simp)).trans za0
    have ya1 := (hG.cell (p := ⟨w.heap.size, 1, none⟩) (st0.lt 4 rfl) (by simp)).trans za1
    have yb0 := (hG.cell (p := ⟨w.heap.size + 1, 0, none⟩) (st0.lt 3 rfl) (by simp)).trans zb0
    have yb1 := (hG.cell (p := ⟨w.heap.size + 1, 1, none⟩) (st0.lt 3 rfl) (by simp)).trans zb1
    have yc0 := (hG.cell (p := ⟨w.heap.size + 1 + 1, 0, none⟩) (st0.lt 2 rfl) (by simp)).trans zc0
    have yc1 := (hG.cell (p := ⟨w.heap.size + 1 + 1, 1, none⟩) (st0.lt 2 rfl) (by simp)).trans zc1
    have yd0 := (hG.cell (p := ⟨w.heap.size + 1 + 1 + 1, 0, none⟩) (st0.lt 1 rfl) (by simp)).trans zd0
    have yd1 := (hG.cell (p := ⟨w.heap.size + 1 + 1 + 1, 1, none⟩) (st0.lt 1 rfl) (by simp)).trans zd1

    go_simp
  · intro a u _ hf
    simp [facts, Need.fact, Ent.val, Act.eval] at hf
    refine ⟨_, _, by go_simp, (pt_c Cx Cy _).mono ?_⟩
    rintro e w' ⟨rfl, hb⟩
    exact ⟨_, rfl, hb, rfl⟩
  · intro a u hG hf
    simp [facts, Need.fact, Act.eval] at hf
    have hc := True.intro
    have ya0 := (hG.cell (p := ⟨w.heap.size, 0, none⟩) (st0.lt 4 rfl) (by simp)).trans za0
    have ya1 := (hG.cell (p := ⟨w.heap.size, 1, none⟩) (st0.lt 4 rfl) (by simp)).trans za1
    have yb0 := (hG.cell (p := ⟨w.heap.size + 1, 0, none⟩) (st0.lt 3 rfl) (by simp)).trans zb0
    have yb1 := (hG.cell (p := ⟨w.heap.size + 1, 1, none⟩) (st0.lt 3 rfl) (by simp)).trans zb1
    have yc0 := (hG.cell (p := ⟨w.heap.size + 1 + 1, 0, none⟩) (st0.lt 2 rfl) (by simp)).trans zc0
    have yc1 := (hG.cell (p := ⟨w.heap.size + 1 + 1, 1, none⟩) (st0.lt 2 rfl) (by simp)).trans zc1
    have yd0 := (hG.cell (p := ⟨w.heap.size + 1 + 1 + 1, 0, none⟩) (st0.lt 1 rfl) (by simp)).trans zd0
    have yd1 := (hG.cell (p := ⟨w.heap.size + 1 + 1 + 1, 1, none⟩) (st0.lt 1 rfl) (by simp)).trans zd1

    go_simp
  · intro a u _ hf
    simp [facts, Need.fact, Ent.val, Act.eval] at hf
    refine ⟨_, _, by go_simp, (pt_c Dx Dy _).mono ?_⟩
    rintro e w' ⟨rfl, hb⟩
    exact ⟨_, rfl, hb, rfl⟩
  · intro a u _ hf
    simp [facts, Need.fact, Ent.val, Act.eval] at hf
    go_simp
  · intro a u _ _
    go_simp
  · intro a u _ _
    go_simp
  intro u lw hw wx hK hE hI hD
  simp [allE, allPut, Act.put, Act.eval, Ent.filledP, Ent.made, Ent.val] at hE
  obtain ⟨u0, u1, u2, u3, u4, u5, u6, u7, u8, u9, ⟨b10, u10, l10, h10, -⟩, ⟨b11, u11, l11, h11, -⟩, ⟨c12, v12, g12⟩, ⟨c13, v13, g13⟩⟩ := hE
  obtain rfl : b10 = c12 := by rw [u10] at v12; simpa using v12
  obtain rfl : b11 = c13 := by rw [u11] at v13; simpa using v13
  simp only [allPut, Act.put, u0, u1, u2, u3, u4, u5, u6, u7, u8, u9, u10, u11]
  clear u0 u1 u2 u3 u4 u5 u6 u7 u8 u9 u10 u11 v12 v13
  have i10 := hI 10 (by simp)
  have i11 := hI 11 (by simp)
  simp at i10 i11
  have st1 := ((st0.keep hK (fun i x _ => by simp) (fun x hx => by simp at hx)).add g13).add g12
  have n10 : w.heap.size + 1 + 1 + 1 + 1 + 1 ≤ b10 := by omega
  have n11 : w.heap.size + 1 + 1 + 1 + 1 + 1 ≤ b11 := by omega
  clear hK hI hD g12 g13 l10 h10 l11 h11 i10 i11 st0 za0 za1 zb0 zb1 zc0 zc1 zd0 zd1
  have zs0 := st1.cell 0 rfl 0
  have zs1 := st1.cell 0 rfl 1
  have zs2 := st1.cell 0 rfl 2
  have zs3 := st1.cell 0 rfl 3
  have zt0 := st1.cell 1 rfl 0
  have zt1 := st1.cell 1 rfl 1
  have zt2 := st1.cell 1 rfl 2
  have zt3 := st1.cell 1 rfl 3
  have zc0 := st1.cell 4 rfl 0
  have zc1 := st1.cell 4 rfl 1
  simp only [List.getElem?_toArray, List.getElem?_cons_zero, List.getElem?_cons_succ] at zs0 zs1 zs2 zs3 zt0 zt1 zt2 zt3 zc0 zc1
  simp only [List.setIfInBounds_toArray, List.set_cons_zero, List.set_cons_succ]
  go_wp2_with (with_reducible refine PF.stop_region0 ?_)
  refine ⟨?_⟩
  refine wp_region_K [w.heap.size + 1 + 1 + 1 + 1] [.val (.agg #[fl (fb Ax), fl (fb Ay), fl (fb Bx), fl (fb By)]),
      .val (.agg #[.int .i64 Cx, .int .i64 Cy]),
      .val (.agg #[fl (fb Cx), fl (fb Cy)]),
      .val (.bool q1),
      .val (.agg #[fl (fb Ax), fl (fb Ay), fl (fb Bx), fl (fb By)]),
      .val (.agg #[.int .i64 Cx, .int .i64 Cy]),
      .val (.agg #[fl (fb Cx), fl (fb Cy)]),
      .val (.bool q3),
      .val (.agg #[fl (fb Ax), fl (fb Ay), fl (fb Bx), fl (fb By)]),
      .val (.agg #[fl (fb Cx), fl (fb Cy), fl (fb Dx), fl (fb Dy)]),
      .val (.bool (q1 && q2)),
      .val (.agg #[fl (fb Ax), fl (fb Ay), fl (fb Bx), fl (fb By)]),
      .val (.agg #[fl (fb Cx), fl (fb Cy), fl (fb Dx), fl (fb Dy)]),
      .of (fun v => SaA Ax Ay Bx By Cx Cy Dx Dy v),
      .val (.agg #[fl (fb Ax), fl (fb Ay), fl (fb Bx), fl (fb By)]),
      .val (.agg #[k0, k1, k2, k3]),
      .val (.agg #[.int .i64 (min Ax Bx), .int .i64 (min Ay By), .int .i64 (max Ax Bx), .int .i64 (max Ay By)]),
      .of (fun v => ∃ cs, v = .agg cs ∧ SaB q1 q2 q3 Ax Ay Bx By Cx Cy Dx Dy cs),
      .turn (w.heap.size + 1 + 1 + 1 + 1) #[.bool false, .bool false, .bool false, .bool false, .int .i64 0, .int .i64 0, .int .i64 0, .int .i64 0] (fun cs => SaB q1 q2 q3 Ax Ay Bx By Cx Cy Dx Dy cs) 49]
    [[.ini 9], [.ini 6], [.frm 1 22], [.frm 0 21, .frm 2 23], [.ini 9], [.ini 6], [.frm 5 26], [.frm 4 25, .frm 6 27], [.ini 9], [.ini 10], [.frm 8 29, .frm 9 30], [.ini 9], [.ini 10], [.frm 11 32, .frm 12 33], [.ini 9], [.frm 14 35], [.frm 15 36], [.frm 3 24, .frm 7 28, .frm 10 31, .frm 13 34, .frm 16 37], [.ini 8, .frm 17 38, .til 18]]
    mixed (by kernel_rfl) (by kernel_rfl) (allPre_of ⟨trivial, trivial, trivial, trivial, trivial, trivial, trivial, trivial, trivial, trivial, trivial, trivial, trivial, trivial, trivial, trivial, trivial, trivial, st1.known 2 _ rfl, trivial⟩)
    ⟨OpOk.quiet rfl ?_,
      OpOk.quiet rfl ?_,
      OpOk.call rfl ?_,
      OpOk.call rfl ?_,
      OpOk.quiet rfl ?_,
      OpOk.quiet rfl ?_,
      OpOk.call rfl ?_,
      OpOk.call rfl ?_,
      OpOk.quiet rfl ?_,
      OpOk.quiet rfl ?_,
      OpOk.call rfl ?_,
      OpOk.quiet rfl ?_,
      OpOk.quiet rfl ?_,
      OpOk.call rfl ?_,
      OpOk.quiet rfl ?_,
      OpOk.call rfl ?_,
      OpOk.call rfl ?_,
      OpOk.adds rfl ?_,
      OpOk.turn rfl (st1.lt 2 rfl) (by kernel_rfl) (oldFree_of ⟨.inr (fun h => (nomatch h)), .inr (fun h => (nomatch h)), .inr (fun h => (nomatch h)), .inr (fun h => (nomatch h)), .inr (fun h => (nomatch h)), .inr (fun h => (nomatch h)), .inr (fun h => (nomatch h)), .inr (fun h => (nomatch h)), .inr (fun h => (nomatch h)), .inr (fun h => (nomatch h)), .inr (fun h => (nomatch h)), .inr (fun h => (nomatch h)), .inr (fun h => (nomatch h)), .inr (fun h => (nomatch h)), .inr (fun h => (nomatch h)), .inr (fun h => (nomatch h)), .inr (fun h => (nomatch h)), .inr (fun h => (nomatch h)), .inl rfl, trivial⟩) (fun a w_ hG hf => by
          obtain ⟨f1, ⟨_, _, _, hv, ans, rfl, ho⟩, f3, -⟩ := hf
          have f1' : a.eval (.tmp 8) = .pointer (some ⟨w.heap.size + 1 + 1 + 1 + 1, 0, none⟩) := f1
          have f3' : w_.heap[w.heap.size + 1 + 1 + 1 + 1]? = some (.cells #[.bool false, .bool false, .bool false, .bool false, .int .i64 0, .int .i64 0, .int .i64 0, .int .i64 0] 49 (0, 0)) := f3
          have hv' : a.eval (.tmp 38) = .agg #[.bool q1, .bool q3, .bool (q1 && q2), .bool ans, .int .i64 (min Ax Bx), .int .i64 (min Ay By), .int .i64 (max Ax Bx), .int .i64 (max Ay By)] := hv
          exact ⟨_, _, _, f3', run_store_row 49 (.tmp 8) (.tmp 38) rfl (w.heap.size + 1 + 1 + 1 + 1) _ f1' hv' 49 _ f3' (by kernel_rfl) rfl (by simp [Value.oneCell']), .inl rfl, ⟨ans, rfl, ho⟩⟩) (fun _ _ h => Keep.setRow h (.inr (by simp))), trivial⟩ ?_
  · intro a u hG hf
    simp [facts, Need.fact, Act.eval] at hf
    have hc := True.intro
    have ys0 := (hG.cell (p := ⟨b10, 0, none⟩) (st1.lt 0 rfl) (by simp <;> omega)).trans zs0
    have ys1 := (hG.cell (p := ⟨b10, 1, none⟩) (st1.lt 0 rfl) (by simp <;> omega)).trans zs1
    have ys2 := (hG.cell (p := ⟨b10, 2, none⟩) (st1.lt 0 rfl) (by simp <;> omega)).trans zs2
    have ys3 := (hG.cell (p := ⟨b10, 3, none⟩) (st1.lt 0 rfl) (by simp <;> omega)).trans zs3
    have yt0 := (hG.cell (p := ⟨b11, 0, none⟩) (st1.lt 1 rfl) (by simp <;> omega)).trans zt0
    have yt1 := (hG.cell (p := ⟨b11, 1, none⟩) (st1.lt 1 rfl) (by simp <;> omega)).trans zt1
    have yt2 := (hG.cell (p := ⟨b11, 2, none⟩) (st1.lt 1 rfl) (by simp <;> omega)).trans zt2
    have yt3 := (hG.cell (p := ⟨b11, 3, none⟩) (st1.lt 1 rfl) (by simp <;> omega)).trans zt3
    have yc0 := (hG.cell (p := ⟨w.heap.size + 1 + 1, 0, none⟩) (st1.lt 4 rfl) (by simp <;> omega)).trans zc0
    have yc1 := (hG.cell (p := ⟨w.heap.size + 1 + 1, 1, none⟩) (st1.lt 4 rfl) (by simp <;> omega)).trans zc1

    go_simp
  · intro a u hG hf
    simp [facts, Need.fact, Act.eval] at hf
    have hc := True.intro
    have ys0 := (hG.cell (p := ⟨b10, 0, none⟩) (st1.lt 0 rfl) (by simp <;> omega)).trans zs0
    have ys1 := (hG.cell (p := ⟨b10, 1, none⟩) (st1.lt 0 rfl) (by simp <;> omega)).trans zs1
    have ys2 := (hG.cell (p := ⟨b10, 2, none⟩) (st1.lt 0 rfl) (by simp <;> omega)).trans zs2
    have ys3 := (hG.cell (p := ⟨b10, 3, none⟩) (st1.lt 0 rfl) (by simp <;> omega)).trans zs3
    have yt0 := (hG.cell (p := ⟨b11, 0, none⟩) (st1.lt 1 rfl) (by simp <;> omega)).trans zt0
    have yt1 := (hG.cell (p := ⟨b11, 1, none⟩) (st1.lt 1 rfl) (by simp <;> omega)).trans zt1
    have yt2 := (hG.cell (p := ⟨b11, 2, none⟩) (st1.lt 1 rfl) (by simp <;> omega)).trans zt2
    have yt3 := (hG.cell (p := ⟨b11, 3, none⟩) (st1.lt 1 rfl) (by simp <;> omega)).trans zt3
    have yc0 := (hG.cell (p := ⟨w.heap.size + 1 + 1, 0, none⟩) (st1.lt 4 rfl) (by simp <;> omega)).trans zc0
    have yc1 := (hG.cell (p := ⟨w.heap.size + 1 + 1, 1, none⟩) (st1.lt 4 rfl) (by simp <;> omega)).trans zc1

    go_simp
  · intro a u _ hf
    simp [facts, Need.fact, Ent.val, Act.eval] at hf
    refine ⟨_, _, by go_simp, (pt_c Cx Cy _).mono ?_⟩
    rintro e w' ⟨rfl, hb⟩
    exact ⟨_, rfl, hb, rfl⟩
  · intro a u _ hf
    simp [facts, Need.fact, Ent.val, Act.eval] at hf
    refine ⟨_, _, by go_simp, (hcn _).mono ?_⟩
    rintro e w' ⟨rfl, hb⟩
    exact ⟨_, rfl, hb, rfl⟩
  · intro a u hG hf
    simp [facts, Need.fact, Act.eval] at hf
    have hc := True.intro
    have ys0 := (hG.cell (p := ⟨b10, 0, none⟩) (st1.lt 0 rfl) (by simp <;> omega)).trans zs0
    have ys1 := (hG.cell (p := ⟨b10, 1, none⟩) (st1.lt 0 rfl) (by simp <;> omega)).trans zs1
    have ys2 := (hG.cell (p := ⟨b10, 2, none⟩) (st1.lt 0 rfl) (by simp <;> omega)).trans zs2
    have ys3 := (hG.cell (p := ⟨b10, 3, none⟩) (st1.lt 0 rfl) (by simp <;> omega)).trans zs3
    have yt0 := (hG.cell (p := ⟨b11, 0, none⟩) (st1.lt 1 rfl) (by simp <;> omega)).trans zt0
    have yt1 := (hG.cell (p := ⟨b11, 1, none⟩) (st1.lt 1 rfl) (by simp <;> omega)).trans zt1
    have yt2 := (hG.cell (p := ⟨b11, 2, none⟩) (st1.lt 1 rfl) (by simp <;> omega)).trans zt2
    have yt3 := (hG.cell (p := ⟨b11, 3, none⟩) (st1.lt 1 rfl) (by simp <;> omega)).trans zt3
    have yc0 := (hG.cell (p := ⟨w.heap.size + 1 + 1, 0, none⟩) (st1.lt 4 rfl) (by simp <;> omega)).trans zc0
    have yc1 := (hG.cell (p := ⟨w.heap.size + 1 + 1, 1, none⟩) (st1.lt 4 rfl) (by simp <;> omega)).trans zc1

    go_simp
  · intro a u hG hf
    simp [facts, Need.fact, Act.eval] at hf
    have hc := True.intro
    have ys0 := (hG.cell (p := ⟨b10, 0, none⟩) (st1.lt 0 rfl) (by simp <;> omega)).trans zs0
    have ys1 := (hG.cell (p := ⟨b10, 1, none⟩) (st1.lt 0 rfl) (by simp <;> omega)).trans zs1
    have ys2 := (hG.cell (p := ⟨b10, 2, none⟩) (st1.lt 0 rfl) (by simp <;> omega)).trans zs2
    have ys3 := (hG.cell (p := ⟨b10, 3, none⟩) (st1.lt 0 rfl) (by simp <;> omega)).trans zs3
    have yt0 := (hG.cell (p := ⟨b11, 0, none⟩) (st1.lt 1 rfl) (by simp <;> omega)).trans zt0
    have yt1 := (hG.cell (p := ⟨b11, 1, none⟩) (st1.lt 1 rfl) (by simp <;> omega)).trans zt1
    have yt2 := (hG.cell (p := ⟨b11, 2, none⟩) (st1.lt 1 rfl) (by simp <;> omega)).trans zt2
    have yt3 := (hG.cell (p := ⟨b11, 3, none⟩) (st1.lt 1 rfl) (by simp <;> omega)).trans zt3
    have yc0 := (hG.cell (p := ⟨w.heap.size + 1 + 1, 0, none⟩) (st1.lt 4 rfl) (by simp <;> omega)).trans zc0
    have yc1 := (hG.cell (p := ⟨w.heap.size + 1 + 1, 1, none⟩) (st1.lt 4 rfl) (by simp <;> omega)).trans zc1

    go_simp
  · intro a u _ hf
    simp [facts, Need.fact, Ent.val, Act.eval] at hf
    refine ⟨_, _, by go_simp, (pt_c Cx Cy _).mono ?_⟩
    rintro e w' ⟨rfl, hb⟩
    exact ⟨_, rfl, hb, rfl⟩
  · intro a u _ hf
    simp [facts, Need.fact, Ent.val, Act.eval] at hf
    refine ⟨_, _, by go_simp, (hcl _).mono ?_⟩
    rintro e w' ⟨rfl, hb⟩
    exact ⟨_, rfl, hb, rfl⟩
  · intro a u hG hf
    simp [facts, Need.fact, Act.eval] at hf
    have hc := True.intro
    have ys0 := (hG.cell (p := ⟨b10, 0, none⟩) (st1.lt 0 rfl) (by simp <;> omega)).trans zs0
    have ys1 := (hG.cell (p := ⟨b10, 1, none⟩) (st1.lt 0 rfl) (by simp <;> omega)).trans zs1
    have ys2 := (hG.cell (p := ⟨b10, 2, none⟩) (st1.lt 0 rfl) (by simp <;> omega)).trans zs2
    have ys3 := (hG.cell (p := ⟨b10, 3, none⟩) (st1.lt 0 rfl) (by simp <;> omega)).trans zs3
    have yt0 := (hG.cell (p := ⟨b11, 0, none⟩) (st1.lt 1 rfl) (by simp <;> omega)).trans zt0
    have yt1 := (hG.cell (p := ⟨b11, 1, none⟩) (st1.lt 1 rfl) (by simp <;> omega)).trans zt1
    have yt2 := (hG.cell (p := ⟨b11, 2, none⟩) (st1.lt 1 rfl) (by simp <;> omega)).trans zt2
    have yt3 := (hG.cell (p := ⟨b11, 3, none⟩) (st1.lt 1 rfl) (by simp <;> omega)).trans zt3
    have yc0 := (hG.cell (p := ⟨w.heap.size + 1 + 1, 0, none⟩) (st1.lt 4 rfl) (by simp <;> omega)).trans zc0
    have yc1 := (hG.cell (p := ⟨w.heap.size + 1 + 1, 1, none⟩) (st1.lt 4 rfl) (by simp <;> omega)).trans zc1

    go_simp
  · intro a u hG hf
    simp [facts, Need.fact, Act.eval] at hf
    have hc := True.intro
    have ys0 := (hG.cell (p := ⟨b10, 0, none⟩) (st1.lt 0 rfl) (by simp <;> omega)).trans zs0
    have ys1 := (hG.cell (p := ⟨b10, 1, none⟩) (st1.lt 0 rfl) (by simp <;> omega)).trans zs1
    have ys2 := (hG.cell (p := ⟨b10, 2, none⟩) (st1.lt 0 rfl) (by simp <;> omega)).trans zs2
    have ys3 := (hG.cell (p := ⟨b10, 3, none⟩) (st1.lt 0 rfl) (by simp <;> omega)).trans zs3
    have yt0 := (hG.cell (p := ⟨b11, 0, none⟩) (st1.lt 1 rfl) (by simp <;> omega)).trans zt0
    have yt1 := (hG.cell (p := ⟨b11, 1, none⟩) (st1.lt 1 rfl) (by simp <;> omega)).trans zt1
    have yt2 := (hG.cell (p := ⟨b11, 2, none⟩) (st1.lt 1 rfl) (by simp <;> omega)).trans zt2
    have yt3 := (hG.cell (p := ⟨b11, 3, none⟩) (st1.lt 1 rfl) (by simp <;> omega)).trans zt3
    have yc0 := (hG.cell (p := ⟨w.heap.size + 1 + 1, 0, none⟩) (st1.lt 4 rfl) (by simp <;> omega)).trans zc0
    have yc1 := (hG.cell (p := ⟨w.heap.size + 1 + 1, 1, none⟩) (st1.lt 4 rfl) (by simp <;> omega)).trans zc1

    go_simp
  · intro a u _ hf
    simp [facts, Need.fact, Ent.val, Act.eval] at hf
    refine ⟨_, _, by go_simp, (hcs _).mono ?_⟩
    rintro e w' ⟨rfl, hb⟩
    exact ⟨_, rfl, hb, rfl⟩
  · intro a u hG hf
    simp [facts, Need.fact, Act.eval] at hf
    have hc := True.intro
    have ys0 := (hG.cell (p := ⟨b10, 0, none⟩) (st1.lt 0 rfl) (by simp <;> omega)).trans zs0
    have ys1 := (hG.cell (p := ⟨b10, 1, none⟩) (st1.lt 0 rfl) (by simp <;> omega)).trans zs1
    have ys2 := (hG.cell (p := ⟨b10, 2, none⟩) (st1.lt 0 rfl) (by simp <;> omega)).trans zs2
    have ys3 := (hG.cell (p := ⟨b10, 3, none⟩) (st1.lt 0 rfl) (by simp <;> omega)).trans zs3
    have yt0 := (hG.cell (p := ⟨b11, 0, none⟩) (st1.lt 1 rfl) (by simp <;> omega)).trans zt0
    have yt1 := (hG.cell (p := ⟨b11, 1, none⟩) (st1.lt 1 rfl) (by simp <;> omega)).trans zt1
    have yt2 := (hG.cell (p := ⟨b11, 2, none⟩) (st1.lt 1 rfl) (by simp <;> omega)).trans zt2
    have yt3 := (hG.cell (p := ⟨b11, 3, none⟩) (st1.lt 1 rfl) (by simp <;> omega)).trans zt3
    have yc0 := (hG.cell (p := ⟨w.heap.size + 1 + 1, 0, none⟩) (st1.lt 4 rfl) (by simp <;> omega)).trans zc0
    have yc1 := (hG.cell (p := ⟨w.heap.size + 1 + 1, 1, none⟩) (st1.lt 4 rfl) (by simp <;> omega)).trans zc1

    go_simp
  · intro a u hG hf
    simp [facts, Need.fact, Act.eval] at hf
    have hc := True.intro
    have ys0 := (hG.cell (p := ⟨b10, 0, none⟩) (st1.lt 0 rfl) (by simp <;> omega)).trans zs0
    have ys1 := (hG.cell (p := ⟨b10, 1, none⟩) (st1.lt 0 rfl) (by simp <;> omega)).trans zs1
    have ys2 := (hG.cell (p := ⟨b10, 2, none⟩) (st1.lt 0 rfl) (by simp <;> omega)).trans zs2
    have ys3 := (hG.cell (p := ⟨b10, 3, none⟩) (st1.lt 0 rfl) (by simp <;> omega)).trans zs3
    have yt0 := (hG.cell (p := ⟨b11, 0, none⟩) (st1.lt 1 rfl) (by simp <;> omega)).trans zt0
    have yt1 := (hG.cell (p := ⟨b11, 1, none⟩) (st1.lt 1 rfl) (by simp <;> omega)).trans zt1
    have yt2 := (hG.cell (p := ⟨b11, 2, none⟩) (st1.lt 1 rfl) (by simp <;> omega)).trans zt2
    have yt3 := (hG.cell (p := ⟨b11, 3, none⟩) (st1.lt 1 rfl) (by simp <;> omega)).trans zt3
    have yc0 := (hG.cell (p := ⟨w.heap.size + 1 + 1, 0, none⟩) (st1.lt 4 rfl) (by simp <;> omega)).trans zc0
    have yc1 := (hG.cell (p := ⟨w.heap.size + 1 + 1, 1, none⟩) (st1.lt 4 rfl) (by simp <;> omega)).trans zc1

    go_simp
  · intro a u hG hf
    simp [facts, Need.fact, Ent.val, Act.eval] at hf
    refine ⟨_, _, by go_simp, (his _).mono ?_⟩
    rintro e w' ⟨ans, rfl, ha, hb⟩
    exact ⟨_, rfl, hb, ans, rfl, ha⟩
  · intro a u hG hf
    simp [facts, Need.fact, Act.eval] at hf
    have hc := True.intro
    have ys0 := (hG.cell (p := ⟨b10, 0, none⟩) (st1.lt 0 rfl) (by simp <;> omega)).trans zs0
    have ys1 := (hG.cell (p := ⟨b10, 1, none⟩) (st1.lt 0 rfl) (by simp <;> omega)).trans zs1
    have ys2 := (hG.cell (p := ⟨b10, 2, none⟩) (st1.lt 0 rfl) (by simp <;> omega)).trans zs2
    have ys3 := (hG.cell (p := ⟨b10, 3, none⟩) (st1.lt 0 rfl) (by simp <;> omega)).trans zs3
    have yt0 := (hG.cell (p := ⟨b11, 0, none⟩) (st1.lt 1 rfl) (by simp <;> omega)).trans zt0
    have yt1 := (hG.cell (p := ⟨b11, 1, none⟩) (st1.lt 1 rfl) (by simp <;> omega)).trans zt1
    have yt2 := (hG.cell (p := ⟨b11, 2, none⟩) (st1.lt 1 rfl) (by simp <;> omega)).trans zt2
    have yt3 := (hG.cell (p := ⟨b11, 3, none⟩) (st1.lt 1 rfl) (by simp <;> omega)).trans zt3
    have yc0 := (hG.cell (p := ⟨w.heap.size + 1 + 1, 0, none⟩) (st1.lt 4 rfl) (by simp <;> omega)).trans zc0
    have yc1 := (hG.cell (p := ⟨w.heap.size + 1 + 1, 1, none⟩) (st1.lt 4 rfl) (by simp <;> omega)).trans zc1

    go_simp
  · intro a u _ hf
    simp [facts, Need.fact, Ent.val, Act.eval] at hf
    refine ⟨_, _, by go_simp, (hsr _).mono ?_⟩
    rintro e w' ⟨rfl, hb⟩
    exact ⟨_, rfl, hb, rfl⟩
  · intro a u _ hf
    simp [facts, Need.fact, Ent.val, Act.eval] at hf
    refine ⟨_, _, by go_simp, (hco _).mono ?_⟩
    rintro e w' ⟨rfl, hb⟩
    exact ⟨_, rfl, hb, rfl⟩
  · intro a u hG hf
    obtain ⟨⟨_, _, f1⟩, ⟨_, _, f2⟩, ⟨_, _, f3⟩, ⟨_, _, ans, f4, ha⟩, ⟨_, _, f5⟩, -⟩ := hf
    replace f1 : a.eval (.tmp 24) = .bool q1 := f1
    replace f2 : a.eval (.tmp 28) = .bool q3 := f2
    replace f3 : a.eval (.tmp 31) = .bool (q1 && q2) := f3
    replace f5 : a.eval (.tmp 37) = .agg #[.int .i64 (min Ax Bx), .int .i64 (min Ay By), .int .i64 (max Ax Bx), .int .i64 (max Ay By)] := f5
    simp [Act.eval] at f1 f2 f3 f4 f5
    exact ⟨_, _, by go_simp, Ext.refl _, _, rfl, ans, rfl, ha⟩
  intro u lw hw wy hK hE hI hD
  simp [allE, Ent.of, Ent.turn, Ent.val] at hE
  obtain ⟨u0, u1, u2, u3, u4, u5, u6, u7, u8, u9, u10, u11, u12, _, u14, u15, u16, _, ⟨cs18, ⟨ans, rfl, ho⟩, g18⟩⟩ := hE
  simp only [allPut, Act.put, u0, u1, u2, u3, u4, u5, u6, u7, u8, u9, u10, u11, u12, u14, u15, u16]
  clear u0 u1 u2 u3 u4 u5 u6 u7 u8 u9 u10 u11 u12 u14 u15 u16
  have q10 := cellAt g18 0
  have q11 := cellAt g18 1
  have q12 := cellAt g18 2
  have q13 := cellAt g18 3
  have q14 := cellAt g18 4
  have q15 := cellAt g18 5
  have q16 := cellAt g18 6
  have q17 := cellAt g18 7
  simp only [List.getElem?_toArray, List.getElem?_cons_zero, List.getElem?_cons_succ] at q10 q11 q12 q13 q14 q15 q16 q17
  have hB := Keep.belowX (B := w.heap.size) hK st1.hb st1.hb.size (by simp; omega)
  clear hK hI hD g18 zs0 zs1 zs2 zs3 zt0 zt1 zt2 zt3 zc0 zc1 st1
  generalize u (0 + 1 + 1 + 1 + 1 + 1 + 1 + 1 + 1 + 1 + 1 + 1 + 1 + 1) = e13 at *
  generalize u (0 + 1 + 1 + 1 + 1 + 1 + 1 + 1 + 1 + 1 + 1 + 1 + 1 + 1 + 1 + 1 + 1 + 1) = e17 at *
  try simp only [List.setIfInBounds_toArray, List.set_cons_zero, List.set_cons_succ]
  go_wp2
  exact bodyPost_ret (v := .agg #[.bool q1, .bool q3, .bool (q1 && q2), .bool ans, .int .i64 (min Ax Bx), .int .i64 (min Ay By), .int .i64 (max Ax Bx), .int .i64 (max Ay By)]) (by simp [results, Try.results15, go_sem, q10, q11, q12, q13, q14, q15, q16, q17]) rfl (SaskP.mk ans ho (by subst hq1 hq2 hq3; rfl) hB)
end Go.Proofs.Ytkaoldmdikljiaa
