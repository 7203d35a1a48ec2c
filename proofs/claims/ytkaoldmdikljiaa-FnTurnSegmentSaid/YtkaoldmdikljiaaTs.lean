import Derived.Test.YtkaoldmdikljiaaSa
import Derived.Test.YtkaoldmdikljiaaPw
import Derived.Test.YtkaoldmdikljiaaVr
import Derived.Test.YtkaoldmdikljiaaAwake
set_option linter.unusedSimpArgs false
set_option linter.unusedVariables false
namespace Go.Proofs.Ytkaoldmdikljiaa
open Go.RowKit PF JR
theorem eqP2 (a b : Int) (d : Nat) (u : World) : (Op.equalIn (d + 2) 25 (.agg #[.int .i64 a, .int .i64 b]) (.agg #[.int .i64 a, .int .i64 b])).run Try.prog u = .ok true u := by
  have h25 : Try.prog.underlying 25 = some (.struct #[_, _]) := Try.underlying25
  have h2 : Try.prog.underlying 2 = some (.int .i64) := Try.underlying2
  unfold Op.equalIn
  simp [run_underlying h25, go_sem]
theorem eqArr2 (a b c d : Int) (u : World) : (Op.equalIn 9999 26 (.agg #[.int .i64 a, .int .i64 b, .int .i64 c, .int .i64 d]) (.agg #[.int .i64 a, .int .i64 b, .int .i64 c, .int .i64 d])).run Try.prog u = .ok true u := by
  have h26 : Try.prog.underlying 26 = some (.array 2 25) := Try.underlying26
  have e1 := fun u => eqP2 a b 9996 u
  have e2 := fun u => eqP2 c d 9996 u
  rw [show (9999 : Nat) = 9998 + 1 from rfl]
  unfold Op.equalIn
  simp only [Nat.reduceAdd] at e1 e2
  simp [run_underlying h26, go_sem, e1, e2, show List.range' 0 2 = [0, 1] from rfl]
/-- a segment's answer whose one part is known only where two segments do not lie on one line -/
def SgP (q1 q3 q4 : Bool) (t0 t1 t2 t3 : Int) (O M : Bool) (w : World) (e : Ending) (w' : World) : Prop :=
  ∃ ans : Bool, e = .returned (.agg #[.bool q1, .bool q3, .bool q4, .bool ans, .int .i64 t0, .int .i64 t1, .int .i64 t2, .int .i64 t3]) ∧ (O = false → ans = M) ∧ Below w.heap.size w w'
def SgC (q1 q3 q4 : Bool) (t0 t1 t2 t3 : Int) (O M : Bool) (cs : Array Value) : Prop :=
  ∃ ans : Bool, cs = #[.bool q1, .bool q3, .bool q4, .bool ans, .int .i64 t0, .int .i64 t1, .int .i64 t2, .int .i64 t3] ∧ (O = false → ans = M)
theorem sask_x (Ax Ay Bx By Cx Cy Dx Dy : Int) (b1 : -12288 ≤ Ax ∧ Ax ≤ 12288 ∧ -12288 ≤ Ay ∧ Ay ≤ 12288 ∧ -12288 ≤ Bx ∧ Bx ≤ 12288 ∧ -12288 ≤ By ∧ By ≤ 12288) (b2 : -12288 ≤ Cx ∧ Cx ≤ 12288 ∧ -12288 ≤ Cy ∧ Cy ≤ 12288 ∧ -12288 ≤ Dx ∧ Dx ≤ 12288 ∧ -12288 ≤ Dy ∧ Dy ≤ 12288)
    {q1 q3 q4 : Bool} {t0 t1 t2 t3 : Int} {O M : Bool} (h1 : rcOn Ax Ay Bx By Cx Cy = q1) (h3 : decide (side Ax Ay Bx By Cx Cy = 0) = q3) (h4 : (rcOn Ax Ay Bx By Cx Cy && rcOn Ax Ay Bx By Dx Dy) = q4)
    (e0 : min Ax Bx = t0) (e1 : min Ay By = t1) (e2 : max Ax Bx = t2) (e3 : max Ay By = t3) (hO : ovl Ax Ay Bx By Cx Cy Dx Dy = O) (hM : meets Ax Ay Bx By Cx Cy Dx Dy = M) (w : World) :
    Calls Try.prog 15 #[.agg #[.int .i64 Ax, .int .i64 Ay], .agg #[.int .i64 Bx, .int .i64 By], .agg #[.int .i64 Cx, .int .i64 Cy], .agg #[.int .i64 Dx, .int .i64 Dy]] w (SgP q1 q3 q4 t0 t1 t2 t3 O M w) := by
  subst h1 h3 h4 e0 e1 e2 e3 hO hM
  exact (sask_c Ax Ay Bx By Cx Cy Dx Dy b1 b2 w).mono fun e w' ⟨ans, h1, h2, h3⟩ => ⟨ans, h1, h2, h3⟩
theorem _root_.PF.Blk.slp4 {w u : World} {L : List (Nat × Array Value × TypeId)} (h : Blk w u L) (i : Nat) {b : Nat} {T : TypeId} {Ax Ay Bx By Cx Cy Dx Dy : Int} (hi : L[i]? = some (b, #[.int .i64 Ax, .int .i64 Ay, .int .i64 Bx, .int .i64 By, .int .i64 Cx, .int .i64 Cy, .int .i64 Dx, .int .i64 Dy], T)) : SlP u (.slice (some ⟨b, 0, none⟩) 4 4) [(Ax, Ay), (Bx, By), (Cx, Cy), (Dx, Dy)] := by
  have c := fun o => h.cell i hi o
  refine ⟨_, 4, rfl, fun k p hp => ⟨_, 0, rfl, ?_⟩⟩
  match k, hp with
  | 0, hp => cases hp; exact ⟨c 0, c 1⟩
  | 1, hp => cases hp; exact ⟨c 2, c 3⟩
  | 2, hp => cases hp; exact ⟨c 4, c 5⟩
  | 3, hp => cases hp; exact ⟨c 6, c 7⟩

set_option maxHeartbeats 4000000 in
set_option maxRecDepth 100000 in
theorem turnSeg_c (K S DX DY Ax Ay Bx By Cx Cy Dx Dy : Int) (hK0 : 0 ≤ K) (w : World) :
    Calls Try.prog 5 #[.agg #[.int .u8 K, .int .i64 S, .int .i64 DX, .int .i64 DY], .agg #[.int .i64 Ax, .int .i64 Ay, .int .i64 Bx, .int .i64 By], .agg #[.int .i64 Cx, .int .i64 Cy, .int .i64 Dx, .int .i64 Dy]] w fun e w' => e = .returned (.bool true) ∧ Below w.heap.size w w' := by
  have st0 := ((((Blk.nil w).push rfl #[.int .u8 K, .int .i64 S, .int .i64 DX, .int .i64 DY] 23).push (b := w.heap.size + 1) (by simp) #[.int .i64 Ax, .int .i64 Ay, .int .i64 Bx, .int .i64 By] 26).push (b := w.heap.size + 1 + 1) (by simp) #[.int .i64 Cx, .int .i64 Cy, .int .i64 Dx, .int .i64 Dy] 26).push (b := w.heap.size + 1 + 1 + 1) (by simp) #[.int .i64 Ax, .int .i64 Ay, .int .i64 Bx, .int .i64 By, .int .i64 Cx, .int .i64 Cy, .int .i64 Dx, .int .i64 Dy] 25
  go_enter Try.func5, Try.ntmps5
  go_wp2_with (first | (go_at_call 6; refine Stop.out ?_) | (with_reducible refine stop_region ?_))
  refine ⟨?_⟩
  refine (ivt_c K S DX DY _).mono ?_
  rintro e w1 ⟨rfl, hb⟩
  have st1 := st0.ext hb
  clear hb st0
  by_cases hI : K ≤ 7 ∧ 1 ≤ S ∧ S ≤ 8 ∧ -4096 ≤ DX ∧ DX ≤ 4096 ∧ -4096 ≤ DY ∧ DY ≤ 4096
  case neg =>
    rw [decide_eq_false hI]
    go_wp2_with (first | (go_at_call 8; refine Stop.out ?_) | (go_at_call 9; refine Stop.out ?_) | (with_reducible refine stop_region ?_))
    refine ⟨?_⟩
    refine (awake_c _).mono ?_
    rintro e wz ⟨rfl, hb⟩
    go_wp2
    go_ret
    exact ⟨rfl, st1.hb.trans (hb.mono st1.hb.size)⟩
  rw [decide_eq_true hI]
  go_wp2_with (first | (go_at_call 8; refine Stop.out ?_) | (with_reducible refine stop_region ?_))
  refine ⟨?_⟩
  refine (varyPoints_c [(Ax, Ay), (Bx, By), (Cx, Cy), (Dx, Dy)] 4 4 (by simp) _ _ (st1.slp4 0 rfl)).mono ?_
  rintro e w2 ⟨rfl, hb⟩
  have st2 := st1.ext hb
  clear hb st1
  have e2 : decide ((4 : Int) ≤ ([(Ax, Ay), (Bx, By), (Cx, Cy), (Dx, Dy)] : List (Int × Int)).length ∧ (([(Ax, Ay), (Bx, By), (Cx, Cy), (Dx, Dy)] : List (Int × Int)).length : Int) ≤ 4 ∧ ([(Ax, Ay), (Bx, By), (Cx, Cy), (Dx, Dy)] : List (Int × Int)).all okP = true) = ([(Ax, Ay), (Bx, By), (Cx, Cy), (Dx, Dy)] : List (Int × Int)).all okP := by simp
  rw [e2]
  clear e2
  cases hok : ([(Ax, Ay), (Bx, By), (Cx, Cy), (Dx, Dy)] : List (Int × Int)).all okP
  case false =>
    go_wp2_with (first | (go_at_call 9; refine Stop.out ?_) | (go_at_call 12; refine Stop.out ?_) | (with_reducible refine stop_region ?_))
    refine ⟨?_⟩
    refine (awake_c _).mono ?_
    rintro e wz ⟨rfl, hb⟩
    go_wp2
    go_ret
    exact ⟨rfl, st2.hb.trans (hb.mono st2.hb.size)⟩
  obtain ⟨k1, k2, k3, k4⟩ : (-1024 ≤ Ax ∧ Ax ≤ 1024 ∧ -1024 ≤ Ay ∧ Ay ≤ 1024) ∧ (-1024 ≤ Bx ∧ Bx ≤ 1024 ∧ -1024 ≤ By ∧ By ≤ 1024) ∧ (-1024 ≤ Cx ∧ Cx ≤ 1024 ∧ -1024 ≤ Cy ∧ Cy ≤ 1024) ∧ (-1024 ≤ Dx ∧ Dx ≤ 1024 ∧ -1024 ≤ Dy ∧ Dy ≤ 1024) := by simpa [okP, and_assoc] using hok
  have hall : ∀ p ∈ ([(Ax, Ay), (Bx, By), (Cx, Cy), (Dx, Dy)] : List (Int × Int)), -65536 ≤ p.1 ∧ p.1 ≤ 65536 ∧ -65536 ≤ p.2 ∧ p.2 ≤ 65536 := by
    intro p hp
    simp at hp
    rcases hp with rfl | rfl | rfl | rfl <;> (simp only; omega)
  clear hok
  have hK : 0 ≤ K ∧ K ≤ 7 := ⟨hK0, hI.1⟩
  have hS : 1 ≤ S ∧ S ≤ 8 := ⟨hI.2.1, hI.2.2.1⟩
  have hS0 : 0 < S := by omega
  have hD := hI.2.2.2
  have ta := tpt_bd2 K S DX DY hK hS hD Ax Ay k1
  have tb := tpt_bd2 K S DX DY hK hS hD Bx By k2
  have tc := tpt_bd2 K S DX DY hK hS hD Cx Cy k3
  have td := tpt_bd2 K S DX DY hK hS hD Dx Dy k4
  have eC := rcOn_tpt K S DX DY hS0 (Ax, Ay) (Bx, By) (Cx, Cy)
  have eD := rcOn_tpt K S DX DY hS0 (Ax, Ay) (Bx, By) (Dx, Dy)
  have hx := fun u => sask_x Ax Ay Bx By Cx Cy Dx Dy (by omega) (by omega) rfl rfl rfl rfl rfl rfl rfl rfl rfl u
  have hy := fun u => sask_x (tpt K S DX DY (Ax, Ay)).1 (tpt K S DX DY (Ax, Ay)).2 (tpt K S DX DY (Bx, By)).1 (tpt K S DX DY (Bx, By)).2 (tpt K S DX DY (Cx, Cy)).1 (tpt K S DX DY (Cx, Cy)).2 (tpt K S DX DY (Dx, Dy)).1 (tpt K S DX DY (Dx, Dy)).2 (by omega) (by omega) eC (col_tpt (a := (Ax, Ay)) (b := (Bx, By)) (p := (Cx, Cy)) hK hS0) (by rw [eC, eD]) rfl rfl rfl rfl (ovl_tpt (a := (Ax, Ay)) (b := (Bx, By)) (c := (Cx, Cy)) (d := (Dx, Dy)) hK hS0) (meets_tpt (a := (Ax, Ay)) (b := (Bx, By)) (c := (Cx, Cy)) (d := (Dx, Dy)) hK hS0) u
  have hz := fun u => sask_x (tpt K S DX DY (Bx, By)).1 (tpt K S DX DY (Bx, By)).2 (tpt K S DX DY (Ax, Ay)).1 (tpt K S DX DY (Ax, Ay)).2 (tpt K S DX DY (Cx, Cy)).1 (tpt K S DX DY (Cx, Cy)).2 (tpt K S DX DY (Dx, Dy)).1 (tpt K S DX DY (Dx, Dy)).2 (by omega) (by omega) (rcOn_swap.trans eC) (col_swap.trans (col_tpt (a := (Ax, Ay)) (b := (Bx, By)) (p := (Cx, Cy)) hK hS0)) (by rw [rcOn_swap.trans eC, rcOn_swap.trans eD]) (Int.min_comm _ _) (Int.min_comm _ _) (Int.max_comm _ _) (Int.max_comm _ _) (ovl_swap.trans (ovl_tpt (a := (Ax, Ay)) (b := (Bx, By)) (c := (Cx, Cy)) (d := (Dx, Dy)) hK hS0)) (meets_swap.trans (meets_tpt (a := (Ax, Ay)) (b := (Bx, By)) (c := (Cx, Cy)) (d := (Dx, Dy)) hK hS0)) u
  have hv := fun u => ovl_c Ax Ay Bx By Cx Cy Dx Dy (by omega) (by omega) u
  have hr := fun u => varyRect_c K S DX DY (min Ax Bx) (min Ay By) (max Ax Bx) (max Ay By) hK hS (by omega) (by omega) (by omega) u
  obtain ⟨x0, x1, x2, x3⟩ := box_tpt (DX := DX) (DY := DY) (Ax := Ax) (Ay := Ay) (Bx := Bx) (By := By) hK hS0
  rw [x0, x1, x2, x3] at hr
  clear x0 x1 x2 x3 eC eD
  obtain ⟨q1, hq1⟩ : ∃ q, rcOn Ax Ay Bx By Cx Cy = q := ⟨_, rfl⟩
  obtain ⟨q2, hq2⟩ : ∃ q, rcOn Ax Ay Bx By Dx Dy = q := ⟨_, rfl⟩
  obtain ⟨q3, hq3⟩ : ∃ q, decide (side Ax Ay Bx By Cx Cy = 0) = q := ⟨_, rfl⟩
  obtain ⟨O, hO⟩ : ∃ q, ovl Ax Ay Bx By Cx Cy Dx Dy = q := ⟨_, rfl⟩
  obtain ⟨M, hM⟩ : ∃ q, meets Ax Ay Bx By Cx Cy Dx Dy = q := ⟨_, rfl⟩
  obtain ⟨q4, hq4⟩ : ∃ q, (q1 && q2) = q := ⟨_, rfl⟩
  simp only [hq1, hq2, hq3, hO, hM, hq4] at hx hy hz hv
  clear hq1 hq2 hq3 hO hM hq4
  have t0 := st2.cell 3 rfl 0
  have t1 := st2.cell 3 rfl 1
  have t2 := st2.cell 3 rfl 2
  have t3 := st2.cell 3 rfl 3
  simp only [List.getElem?_toArray, List.getElem?_cons_zero, List.getElem?_cons_succ] at t0 t1 t2 t3
  go_wp2_with (first | (go_at_call 12; refine Stop.out ?_) | (with_reducible refine stop_region ?_))
  refine ⟨?_⟩
  refine (varyTurned_c K S DX DY hK hS (by omega) _ hall (by simp) _ _ (st2.slp4 0 rfl)).mono ?_
  rintro e w3 ⟨v3, rfl, sv3, hb⟩
  have st3 := st2.ext hb
  clear hb st2
  have sz3' : w.heap.size + 1 + 1 + 1 < w3.heap.size := st3.lt 0 rfl
  clear t0 t1 t2 t3
  obtain ⟨A3, cp3, rfl, hk3⟩ := sv3
  obtain ⟨b3, o3, hA, y0, y1⟩ := hk3 0 _ rfl
  subst hA
  obtain ⟨b', o', hA, y2, y3⟩ := hk3 1 _ rfl
  cases hA
  obtain ⟨b', o', hA, y4, y5⟩ := hk3 2 _ rfl
  cases hA
  obtain ⟨b', o', hA, y6, y7⟩ := hk3 3 _ rfl
  cases hA
  clear hk3 hall
  simp only [Nat.zero_mul, Nat.one_mul, Nat.add_zero, Nat.reduceMul] at y0 y1 y2 y3 y4 y5 y6 y7
  have l0 := st3.cell 0 rfl 0
  have l1 := st3.cell 0 rfl 1
  have l2 := st3.cell 0 rfl 2
  have l3 := st3.cell 0 rfl 3
  have l4 := st3.cell 0 rfl 4
  have l5 := st3.cell 0 rfl 5
  have l6 := st3.cell 0 rfl 6
  have l7 := st3.cell 0 rfl 7
  simp only [List.getElem?_toArray, List.getElem?_cons_zero, List.getElem?_cons_succ] at l0 l1 l2 l3 l4 l5 l6 l7
  go_wp2_with (with_reducible refine stop_region ?_)
  refine ⟨?_⟩
  refine wp_region_K [] [.val (.slice (some ⟨w.heap.size + 1 + 1 + 1, 0, none⟩) 4 4),
      .val (.pointer (some ⟨w.heap.size + 1 + 1 + 1, 0, none⟩)),
      .val (.agg #[.int .i64 Ax, .int .i64 Ay]),
      .val (.slice (some ⟨w.heap.size + 1 + 1 + 1, 0, none⟩) 4 4),
      .val (.pointer (some ⟨w.heap.size + 1 + 1 + 1, 2, none⟩)),
      .val (.agg #[.int .i64 Bx, .int .i64 By]),
      .val (.slice (some ⟨w.heap.size + 1 + 1 + 1, 0, none⟩) 4 4),
      .val (.pointer (some ⟨w.heap.size + 1 + 1 + 1, 4, none⟩)),
      .val (.agg #[.int .i64 Cx, .int .i64 Cy]),
      .val (.slice (some ⟨w.heap.size + 1 + 1 + 1, 0, none⟩) 4 4),
      .val (.pointer (some ⟨w.heap.size + 1 + 1 + 1, 6, none⟩)),
      .val (.agg #[.int .i64 Dx, .int .i64 Dy]),
      .of (fun v => ∃ cs, v = .agg cs ∧ SgC q1 q3 q4 (min Ax Bx) (min Ay By) (max Ax Bx) (max Ay By) O M cs),
      .made 49 8,
      .filledP 9 (fun cs => SgC q1 q3 q4 (min Ax Bx) (min Ay By) (max Ax Bx) (max Ay By) O M cs) 49]
    [[.ini 7], [.frm 0 34], [.frm 1 35], [.ini 7], [.frm 3 37], [.frm 4 38], [.ini 7], [.frm 6 40], [.frm 7 41], [.ini 7], [.frm 9 43], [.frm 10 44], [.frm 2 36, .frm 5 39, .frm 8 42, .frm 11 45], [], [.frm 13 9, .frm 12 46]]
    mixed (by kernel_rfl) (by kernel_rfl) (allPre_of ⟨trivial, trivial, trivial, trivial, trivial, trivial, trivial, trivial, trivial, trivial, trivial, trivial, trivial, trivial, trivial, trivial⟩)
    ⟨OpOk.quiet rfl ?_,
      OpOk.quiet rfl ?_,
      OpOk.quiet rfl ?_,
      OpOk.quiet rfl ?_,
      OpOk.quiet rfl ?_,
      OpOk.quiet rfl ?_,
      OpOk.quiet rfl ?_,
      OpOk.quiet rfl ?_,
      OpOk.quiet rfl ?_,
      OpOk.quiet rfl ?_,
      OpOk.quiet rfl ?_,
      OpOk.quiet rfl ?_,
      OpOk.call rfl ?_,
      OpOk.made (cs := #[.bool false, .bool false, .bool false, .bool false, .int .i64 0, .int .i64 0, .int .i64 0, .int .i64 0]) rfl rfl ?_,
      OpOk.fill (k := 13) rfl (by kernel_rfl) rfl (oldLt_of ⟨(fun _ h => (nomatch h)), (fun _ h => (nomatch h)), (fun _ h => (nomatch h)), (fun _ h => (nomatch h)), (fun _ h => (nomatch h)), (fun _ h => (nomatch h)), (fun _ h => (nomatch h)), (fun _ h => (nomatch h)), (fun _ h => (nomatch h)), (fun _ h => (nomatch h)), (fun _ h => (nomatch h)), (fun _ h => (nomatch h)), (fun _ h => (nomatch h)), (fun _ h => (nomatch h)), (fun _ h => (nomatch h)), trivial⟩) (fun a w_ hf => hf.1)
        (fun a w_ b old _ hf hp hb hs => by
          obtain ⟨-, ⟨_, _, cs, hv, hc⟩, -⟩ := hf
          obtain ⟨ans, rfl, ho⟩ := hc
          exact ⟨.skip, _, run_store_row 49 (.tmp 9) (.tmp 46) rfl b _ hp hv 49 old hb (by kernel_rfl) hs (by simp [Value.oneCell']), .inl rfl, ⟨ans, rfl, ho⟩, rfl⟩)
        (fun _ _ _ h hb => Keep.setRow h (.inl hb)), trivial⟩ ?_
  · intro a u _ hf
    simp [facts, Need.fact, Act.eval] at hf
    go_simp
  · intro a u _ hf
    simp [facts, Need.fact, Ent.val, Act.eval] at hf
    go_simp
  · intro a u hG hf
    simp [facts, Need.fact, Ent.val, Act.eval] at hf
    have hc := True.intro
    have l0' := (hG.cell (p := ⟨w.heap.size + 1 + 1 + 1, 0, none⟩) (st3.lt 0 rfl) (by simp)).trans l0
    have l1' := (hG.cell (p := ⟨w.heap.size + 1 + 1 + 1, 1, none⟩) (st3.lt 0 rfl) (by simp)).trans l1
    have l2' := (hG.cell (p := ⟨w.heap.size + 1 + 1 + 1, 2, none⟩) (st3.lt 0 rfl) (by simp)).trans l2
    have l3' := (hG.cell (p := ⟨w.heap.size + 1 + 1 + 1, 3, none⟩) (st3.lt 0 rfl) (by simp)).trans l3
    have l4' := (hG.cell (p := ⟨w.heap.size + 1 + 1 + 1, 4, none⟩) (st3.lt 0 rfl) (by simp)).trans l4
    have l5' := (hG.cell (p := ⟨w.heap.size + 1 + 1 + 1, 5, none⟩) (st3.lt 0 rfl) (by simp)).trans l5
    have l6' := (hG.cell (p := ⟨w.heap.size + 1 + 1 + 1, 6, none⟩) (st3.lt 0 rfl) (by simp)).trans l6
    have l7' := (hG.cell (p := ⟨w.heap.size + 1 + 1 + 1, 7, none⟩) (st3.lt 0 rfl) (by simp)).trans l7

    go_simp
  · intro a u _ hf
    simp [facts, Need.fact, Act.eval] at hf
    go_simp
  · intro a u _ hf
    simp [facts, Need.fact, Ent.val, Act.eval] at hf
    go_simp
  · intro a u hG hf
    simp [facts, Need.fact, Ent.val, Act.eval] at hf
    have hc := True.intro
    have l0' := (hG.cell (p := ⟨w.heap.size + 1 + 1 + 1, 0, none⟩) (st3.lt 0 rfl) (by simp)).trans l0
    have l1' := (hG.cell (p := ⟨w.heap.size + 1 + 1 + 1, 1, none⟩) (st3.lt 0 rfl) (by simp)).trans l1
    have l2' := (hG.cell (p := ⟨w.heap.size + 1 + 1 + 1, 2, none⟩) (st3.lt 0 rfl) (by simp)).trans l2
    have l3' := (hG.cell (p := ⟨w.heap.size + 1 + 1 + 1, 3, none⟩) (st3.lt 0 rfl) (by simp)).trans l3
    have l4' := (hG.cell (p := ⟨w.heap.size + 1 + 1 + 1, 4, none⟩) (st3.lt 0 rfl) (by simp)).trans l4
    have l5' := (hG.cell (p := ⟨w.heap.size + 1 + 1 + 1, 5, none⟩) (st3.lt 0 rfl) (by simp)).trans l5
    have l6' := (hG.cell (p := ⟨w.heap.size + 1 + 1 + 1, 6, none⟩) (st3.lt 0 rfl) (by simp)).trans l6
    have l7' := (hG.cell (p := ⟨w.heap.size + 1 + 1 + 1, 7, none⟩) (st3.lt 0 rfl) (by simp)).trans l7

    go_simp
  · intro a u _ hf
    simp [facts, Need.fact, Act.eval] at hf
    go_simp
  · intro a u _ hf
    simp [facts, Need.fact, Ent.val, Act.eval] at hf
    go_simp
  · intro a u hG hf
    simp [facts, Need.fact, Ent.val, Act.eval] at hf
    have hc := True.intro
    have l0' := (hG.cell (p := ⟨w.heap.size + 1 + 1 + 1, 0, none⟩) (st3.lt 0 rfl) (by simp)).trans l0
    have l1' := (hG.cell (p := ⟨w.heap.size + 1 + 1 + 1, 1, none⟩) (st3.lt 0 rfl) (by simp)).trans l1
    have l2' := (hG.cell (p := ⟨w.heap.size + 1 + 1 + 1, 2, none⟩) (st3.lt 0 rfl) (by simp)).trans l2
    have l3' := (hG.cell (p := ⟨w.heap.size + 1 + 1 + 1, 3, none⟩) (st3.lt 0 rfl) (by simp)).trans l3
    have l4' := (hG.cell (p := ⟨w.heap.size + 1 + 1 + 1, 4, none⟩) (st3.lt 0 rfl) (by simp)).trans l4
    have l5' := (hG.cell (p := ⟨w.heap.size + 1 + 1 + 1, 5, none⟩) (st3.lt 0 rfl) (by simp)).trans l5
    have l6' := (hG.cell (p := ⟨w.heap.size + 1 + 1 + 1, 6, none⟩) (st3.lt 0 rfl) (by simp)).trans l6
    have l7' := (hG.cell (p := ⟨w.heap.size + 1 + 1 + 1, 7, none⟩) (st3.lt 0 rfl) (by simp)).trans l7

    go_simp
  · intro a u _ hf
    simp [facts, Need.fact, Act.eval] at hf
    go_simp
  · intro a u _ hf
    simp [facts, Need.fact, Ent.val, Act.eval] at hf
    go_simp
  · intro a u hG hf
    simp [facts, Need.fact, Ent.val, Act.eval] at hf
    have hc := True.intro
    have l0' := (hG.cell (p := ⟨w.heap.size + 1 + 1 + 1, 0, none⟩) (st3.lt 0 rfl) (by simp)).trans l0
    have l1' := (hG.cell (p := ⟨w.heap.size + 1 + 1 + 1, 1, none⟩) (st3.lt 0 rfl) (by simp)).trans l1
    have l2' := (hG.cell (p := ⟨w.heap.size + 1 + 1 + 1, 2, none⟩) (st3.lt 0 rfl) (by simp)).trans l2
    have l3' := (hG.cell (p := ⟨w.heap.size + 1 + 1 + 1, 3, none⟩) (st3.lt 0 rfl) (by simp)).trans l3
    have l4' := (hG.cell (p := ⟨w.heap.size + 1 + 1 + 1, 4, none⟩) (st3.lt 0 rfl) (by simp)).trans l4
    have l5' := (hG.cell (p := ⟨w.heap.size + 1 + 1 + 1, 5, none⟩) (st3.lt 0 rfl) (by simp)).trans l5
    have l6' := (hG.cell (p := ⟨w.heap.size + 1 + 1 + 1, 6, none⟩) (st3.lt 0 rfl) (by simp)).trans l6
    have l7' := (hG.cell (p := ⟨w.heap.size + 1 + 1 + 1, 7, none⟩) (st3.lt 0 rfl) (by simp)).trans l7

    go_simp
  · intro a u hG hf
    simp [facts, Need.fact, Ent.val, Act.eval] at hf
    refine ⟨_, _, by go_simp, (hx _).mono ?_⟩
    rintro e w' ⟨ans, rfl, ha, hb⟩
    exact ⟨_, rfl, hb, _, rfl, ans, rfl, ha⟩
  · intro a u _ _
    go_simp
  intro u lw hw w4 hKp hE hI hDp
  simp [allE, allPut, Act.put, Act.eval, Ent.filledP, Ent.made, Ent.of, Ent.val] at hE
  obtain ⟨u0, u1, u2, u3, u4, u5, u6, u7, u8, u9, u10, u11, _, ⟨bx, u13, l13, h13, -⟩, ⟨c14, v14, cs14, hcs, g14⟩⟩ := hE
  obtain rfl : bx = c14 := by rw [u13] at v14; simpa using v14
  simp only [allPut, Act.put, u0, u1, u2, u3, u4, u5, u6, u7, u8, u9, u10, u11, u13]
  clear u0 u1 u2 u3 u4 u5 u6 u7 u8 u9 u10 u11 u13
  obtain ⟨ansx, rfl, hax⟩ := hcs
  generalize u (0 + 1 + 1 + 1 + 1 + 1 + 1 + 1 + 1 + 1 + 1 + 1 + 1) = ex at *
  have i13 := hI 13 (by simp)
  try simp at i13
  have nx : bx < w4.heap.size ∧ w3.heap.size ≤ bx := ⟨lt_of_some g14, by omega⟩
  have st4 := (st3.keep hKp (fun i x _ => by simp) (fun x hx => by simp at hx)).add g14
  replace y0 : w4.cell? ⟨b3, o3, none⟩ = _ := (hKp.cell (p := ⟨b3, o3, none⟩) (World.block_lt_of_cell? _ _ y0) (by simp)).trans y0
  replace y1 : w4.cell? ⟨b3, o3 + 1, none⟩ = _ := (hKp.cell (p := ⟨b3, o3 + 1, none⟩) (World.block_lt_of_cell? _ _ y1) (by simp)).trans y1
  replace y2 : w4.cell? ⟨b3, o3 + 2, none⟩ = _ := (hKp.cell (p := ⟨b3, o3 + 2, none⟩) (World.block_lt_of_cell? _ _ y2) (by simp)).trans y2
  replace y3 : w4.cell? ⟨b3, o3 + 2 + 1, none⟩ = _ := (hKp.cell (p := ⟨b3, o3 + 2 + 1, none⟩) (World.block_lt_of_cell? _ _ y3) (by simp)).trans y3
  replace y4 : w4.cell? ⟨b3, o3 + 4, none⟩ = _ := (hKp.cell (p := ⟨b3, o3 + 4, none⟩) (World.block_lt_of_cell? _ _ y4) (by simp)).trans y4
  replace y5 : w4.cell? ⟨b3, o3 + 4 + 1, none⟩ = _ := (hKp.cell (p := ⟨b3, o3 + 4 + 1, none⟩) (World.block_lt_of_cell? _ _ y5) (by simp)).trans y5
  replace y6 : w4.cell? ⟨b3, o3 + 6, none⟩ = _ := (hKp.cell (p := ⟨b3, o3 + 6, none⟩) (World.block_lt_of_cell? _ _ y6) (by simp)).trans y6
  replace y7 : w4.cell? ⟨b3, o3 + 6 + 1, none⟩ = _ := (hKp.cell (p := ⟨b3, o3 + 6 + 1, none⟩) (World.block_lt_of_cell? _ _ y7) (by simp)).trans y7
  clear hKp hI hDp g14 l13 h13 i13
  clear l0 l1 l2 l3 l4 l5 l6 l7
  clear st3
  simp only [List.setIfInBounds_toArray, List.set_cons_zero, List.set_cons_succ]
  go_wp2_with (with_reducible refine stop_region ?_)
  refine ⟨?_⟩
  refine wp_region_K [] [.val (.slice (some ⟨b3, o3, none⟩) 4 cp3),
      .val (.pointer (some ⟨b3, o3, none⟩)),
      .val (.agg #[.int .i64 (tpt K S DX DY (Ax, Ay)).1, .int .i64 (tpt K S DX DY (Ax, Ay)).2]),
      .val (.slice (some ⟨b3, o3, none⟩) 4 cp3),
      .val (.pointer (some ⟨b3, o3 + 2, none⟩)),
      .val (.agg #[.int .i64 (tpt K S DX DY (Bx, By)).1, .int .i64 (tpt K S DX DY (Bx, By)).2]),
      .val (.slice (some ⟨b3, o3, none⟩) 4 cp3),
      .val (.pointer (some ⟨b3, o3 + 4, none⟩)),
      .val (.agg #[.int .i64 (tpt K S DX DY (Cx, Cy)).1, .int .i64 (tpt K S DX DY (Cx, Cy)).2]),
      .val (.slice (some ⟨b3, o3, none⟩) 4 cp3),
      .val (.pointer (some ⟨b3, o3 + 6, none⟩)),
      .val (.agg #[.int .i64 (tpt K S DX DY (Dx, Dy)).1, .int .i64 (tpt K S DX DY (Dx, Dy)).2]),
      .of (fun v => ∃ cs, v = .agg cs ∧ SgC q1 q3 q4 (min (tpt K S DX DY (Ax, Ay)).1 (tpt K S DX DY (Bx, By)).1) (min (tpt K S DX DY (Ax, Ay)).2 (tpt K S DX DY (Bx, By)).2) (max (tpt K S DX DY (Ax, Ay)).1 (tpt K S DX DY (Bx, By)).1) (max (tpt K S DX DY (Ax, Ay)).2 (tpt K S DX DY (Bx, By)).2) O M cs),
      .made 49 8,
      .filledP 10 (fun cs => SgC q1 q3 q4 (min (tpt K S DX DY (Ax, Ay)).1 (tpt K S DX DY (Bx, By)).1) (min (tpt K S DX DY (Ax, Ay)).2 (tpt K S DX DY (Bx, By)).2) (max (tpt K S DX DY (Ax, Ay)).1 (tpt K S DX DY (Bx, By)).1) (max (tpt K S DX DY (Ax, Ay)).2 (tpt K S DX DY (Bx, By)).2) O M cs) 49]
    [[.ini 8], [.frm 0 47], [.frm 1 48], [.ini 8], [.frm 3 50], [.frm 4 51], [.ini 8], [.frm 6 53], [.frm 7 54], [.ini 8], [.frm 9 56], [.frm 10 57], [.frm 2 49, .frm 5 52, .frm 8 55, .frm 11 58], [], [.frm 13 10, .frm 12 59]]
    mixed (by kernel_rfl) (by kernel_rfl) (allPre_of ⟨trivial, trivial, trivial, trivial, trivial, trivial, trivial, trivial, trivial, trivial, trivial, trivial, trivial, trivial, trivial, trivial⟩)
    ⟨OpOk.quiet rfl ?_,
      OpOk.quiet rfl ?_,
      OpOk.quiet rfl ?_,
      OpOk.quiet rfl ?_,
      OpOk.quiet rfl ?_,
      OpOk.quiet rfl ?_,
      OpOk.quiet rfl ?_,
      OpOk.quiet rfl ?_,
      OpOk.quiet rfl ?_,
      OpOk.quiet rfl ?_,
      OpOk.quiet rfl ?_,
      OpOk.quiet rfl ?_,
      OpOk.call rfl ?_,
      OpOk.made (cs := #[.bool false, .bool false, .bool false, .bool false, .int .i64 0, .int .i64 0, .int .i64 0, .int .i64 0]) rfl rfl ?_,
      OpOk.fill (k := 13) rfl (by kernel_rfl) rfl (oldLt_of ⟨(fun _ h => (nomatch h)), (fun _ h => (nomatch h)), (fun _ h => (nomatch h)), (fun _ h => (nomatch h)), (fun _ h => (nomatch h)), (fun _ h => (nomatch h)), (fun _ h => (nomatch h)), (fun _ h => (nomatch h)), (fun _ h => (nomatch h)), (fun _ h => (nomatch h)), (fun _ h => (nomatch h)), (fun _ h => (nomatch h)), (fun _ h => (nomatch h)), (fun _ h => (nomatch h)), (fun _ h => (nomatch h)), trivial⟩) (fun a w_ hf => hf.1)
        (fun a w_ b old _ hf hp hb hs => by
          obtain ⟨-, ⟨_, _, cs, hv, hc⟩, -⟩ := hf
          obtain ⟨ans, rfl, ho⟩ := hc
          exact ⟨.skip, _, run_store_row 49 (.tmp 10) (.tmp 59) rfl b _ hp hv 49 old hb (by kernel_rfl) hs (by simp [Value.oneCell']), .inl rfl, ⟨ans, rfl, ho⟩, rfl⟩)
        (fun _ _ _ h hb => Keep.setRow h (.inl hb)), trivial⟩ ?_
  · intro a u _ hf
    simp [facts, Need.fact, Act.eval] at hf
    go_simp
  · intro a u _ hf
    simp [facts, Need.fact, Ent.val, Act.eval] at hf
    go_simp
  · intro a u hG hf
    simp [facts, Need.fact, Ent.val, Act.eval] at hf
    have hc := True.intro
    have y0' := (hG.cell (p := ⟨b3, o3, none⟩) (World.block_lt_of_cell? _ _ y0) (by simp)).trans y0
    have y1' := (hG.cell (p := ⟨b3, o3 + 1, none⟩) (World.block_lt_of_cell? _ _ y1) (by simp)).trans y1
    have y2' := (hG.cell (p := ⟨b3, o3 + 2, none⟩) (World.block_lt_of_cell? _ _ y2) (by simp)).trans y2
    have y3' := (hG.cell (p := ⟨b3, o3 + 2 + 1, none⟩) (World.block_lt_of_cell? _ _ y3) (by simp)).trans y3
    have y4' := (hG.cell (p := ⟨b3, o3 + 4, none⟩) (World.block_lt_of_cell? _ _ y4) (by simp)).trans y4
    have y5' := (hG.cell (p := ⟨b3, o3 + 4 + 1, none⟩) (World.block_lt_of_cell? _ _ y5) (by simp)).trans y5
    have y6' := (hG.cell (p := ⟨b3, o3 + 6, none⟩) (World.block_lt_of_cell? _ _ y6) (by simp)).trans y6
    have y7' := (hG.cell (p := ⟨b3, o3 + 6 + 1, none⟩) (World.block_lt_of_cell? _ _ y7) (by simp)).trans y7

    go_simp
  · intro a u _ hf
    simp [facts, Need.fact, Act.eval] at hf
    go_simp
  · intro a u _ hf
    simp [facts, Need.fact, Ent.val, Act.eval] at hf
    go_simp
  · intro a u hG hf
    simp [facts, Need.fact, Ent.val, Act.eval] at hf
    have hc := True.intro
    have y0' := (hG.cell (p := ⟨b3, o3, none⟩) (World.block_lt_of_cell? _ _ y0) (by simp)).trans y0
    have y1' := (hG.cell (p := ⟨b3, o3 + 1, none⟩) (World.block_lt_of_cell? _ _ y1) (by simp)).trans y1
    have y2' := (hG.cell (p := ⟨b3, o3 + 2, none⟩) (World.block_lt_of_cell? _ _ y2) (by simp)).trans y2
    have y3' := (hG.cell (p := ⟨b3, o3 + 2 + 1, none⟩) (World.block_lt_of_cell? _ _ y3) (by simp)).trans y3
    have y4' := (hG.cell (p := ⟨b3, o3 + 4, none⟩) (World.block_lt_of_cell? _ _ y4) (by simp)).trans y4
    have y5' := (hG.cell (p := ⟨b3, o3 + 4 + 1, none⟩) (World.block_lt_of_cell? _ _ y5) (by simp)).trans y5
    have y6' := (hG.cell (p := ⟨b3, o3 + 6, none⟩) (World.block_lt_of_cell? _ _ y6) (by simp)).trans y6
    have y7' := (hG.cell (p := ⟨b3, o3 + 6 + 1, none⟩) (World.block_lt_of_cell? _ _ y7) (by simp)).trans y7

    go_simp
  · intro a u _ hf
    simp [facts, Need.fact, Act.eval] at hf
    go_simp
  · intro a u _ hf
    simp [facts, Need.fact, Ent.val, Act.eval] at hf
    go_simp
  · intro a u hG hf
    simp [facts, Need.fact, Ent.val, Act.eval] at hf
    have hc := True.intro
    have y0' := (hG.cell (p := ⟨b3, o3, none⟩) (World.block_lt_of_cell? _ _ y0) (by simp)).trans y0
    have y1' := (hG.cell (p := ⟨b3, o3 + 1, none⟩) (World.block_lt_of_cell? _ _ y1) (by simp)).trans y1
    have y2' := (hG.cell (p := ⟨b3, o3 + 2, none⟩) (World.block_lt_of_cell? _ _ y2) (by simp)).trans y2
    have y3' := (hG.cell (p := ⟨b3, o3 + 2 + 1, none⟩) (World.block_lt_of_cell? _ _ y3) (by simp)).trans y3
    have y4' := (hG.cell (p := ⟨b3, o3 + 4, none⟩) (World.block_lt_of_cell? _ _ y4) (by simp)).trans y4
    have y5' := (hG.cell (p := ⟨b3, o3 + 4 + 1, none⟩) (World.block_lt_of_cell? _ _ y5) (by simp)).trans y5
    have y6' := (hG.cell (p := ⟨b3, o3 + 6, none⟩) (World.block_lt_of_cell? _ _ y6) (by simp)).trans y6
    have y7' := (hG.cell (p := ⟨b3, o3 + 6 + 1, none⟩) (World.block_lt_of_cell? _ _ y7) (by simp)).trans y7

    go_simp
  · intro a u _ hf
    simp [facts, Need.fact, Act.eval] at hf
    go_simp
  · intro a u _ hf
    simp [facts, Need.fact, Ent.val, Act.eval] at hf
    go_simp
  · intro a u hG hf
    simp [facts, Need.fact, Ent.val, Act.eval] at hf
    have hc := True.intro
    have y0' := (hG.cell (p := ⟨b3, o3, none⟩) (World.block_lt_of_cell? _ _ y0) (by simp)).trans y0
    have y1' := (hG.cell (p := ⟨b3, o3 + 1, none⟩) (World.block_lt_of_cell? _ _ y1) (by simp)).trans y1
    have y2' := (hG.cell (p := ⟨b3, o3 + 2, none⟩) (World.block_lt_of_cell? _ _ y2) (by simp)).trans y2
    have y3' := (hG.cell (p := ⟨b3, o3 + 2 + 1, none⟩) (World.block_lt_of_cell? _ _ y3) (by simp)).trans y3
    have y4' := (hG.cell (p := ⟨b3, o3 + 4, none⟩) (World.block_lt_of_cell? _ _ y4) (by simp)).trans y4
    have y5' := (hG.cell (p := ⟨b3, o3 + 4 + 1, none⟩) (World.block_lt_of_cell? _ _ y5) (by simp)).trans y5
    have y6' := (hG.cell (p := ⟨b3, o3 + 6, none⟩) (World.block_lt_of_cell? _ _ y6) (by simp)).trans y6
    have y7' := (hG.cell (p := ⟨b3, o3 + 6 + 1, none⟩) (World.block_lt_of_cell? _ _ y7) (by simp)).trans y7

    go_simp
  · intro a u hG hf
    simp [facts, Need.fact, Ent.val, Act.eval] at hf
    refine ⟨_, _, by go_simp, (hy _).mono ?_⟩
    rintro e w' ⟨ans, rfl, ha, hb⟩
    exact ⟨_, rfl, hb, _, rfl, ans, rfl, ha⟩
  · intro a u _ _
    go_simp
  intro u lw hw w5 hKp hE hI hDp
  simp [allE, allPut, Act.put, Act.eval, Ent.filledP, Ent.made, Ent.of, Ent.val] at hE
  obtain ⟨u0, u1, u2, u3, u4, u5, u6, u7, u8, u9, u10, u11, _, ⟨by_, u13, l13, h13, -⟩, ⟨c14, v14, cs14, hcs, g14⟩⟩ := hE
  obtain rfl : by_ = c14 := by rw [u13] at v14; simpa using v14
  simp only [allPut, Act.put, u0, u1, u2, u3, u4, u5, u6, u7, u8, u9, u10, u11, u13]
  clear u0 u1 u2 u3 u4 u5 u6 u7 u8 u9 u10 u11 u13
  obtain ⟨ansy, rfl, hay⟩ := hcs
  generalize u (0 + 1 + 1 + 1 + 1 + 1 + 1 + 1 + 1 + 1 + 1 + 1 + 1) = ey at *
  have i13 := hI 13 (by simp)
  try simp at i13
  have ny : by_ < w5.heap.size ∧ w4.heap.size ≤ by_ := ⟨lt_of_some g14, by omega⟩
  have st5 := (st4.keep hKp (fun i x _ => by simp) (fun x hx => by simp at hx)).add g14
  replace y0 : w5.cell? ⟨b3, o3, none⟩ = _ := (hKp.cell (p := ⟨b3, o3, none⟩) (World.block_lt_of_cell? _ _ y0) (by simp)).trans y0
  replace y1 : w5.cell? ⟨b3, o3 + 1, none⟩ = _ := (hKp.cell (p := ⟨b3, o3 + 1, none⟩) (World.block_lt_of_cell? _ _ y1) (by simp)).trans y1
  replace y2 : w5.cell? ⟨b3, o3 + 2, none⟩ = _ := (hKp.cell (p := ⟨b3, o3 + 2, none⟩) (World.block_lt_of_cell? _ _ y2) (by simp)).trans y2
  replace y3 : w5.cell? ⟨b3, o3 + 2 + 1, none⟩ = _ := (hKp.cell (p := ⟨b3, o3 + 2 + 1, none⟩) (World.block_lt_of_cell? _ _ y3) (by simp)).trans y3
  replace y4 : w5.cell? ⟨b3, o3 + 4, none⟩ = _ := (hKp.cell (p := ⟨b3, o3 + 4, none⟩) (World.block_lt_of_cell? _ _ y4) (by simp)).trans y4
  replace y5 : w5.cell? ⟨b3, o3 + 4 + 1, none⟩ = _ := (hKp.cell (p := ⟨b3, o3 + 4 + 1, none⟩) (World.block_lt_of_cell? _ _ y5) (by simp)).trans y5
  replace y6 : w5.cell? ⟨b3, o3 + 6, none⟩ = _ := (hKp.cell (p := ⟨b3, o3 + 6, none⟩) (World.block_lt_of_cell? _ _ y6) (by simp)).trans y6
  replace y7 : w5.cell? ⟨b3, o3 + 6 + 1, none⟩ = _ := (hKp.cell (p := ⟨b3, o3 + 6 + 1, none⟩) (World.block_lt_of_cell? _ _ y7) (by simp)).trans y7
  clear hKp hI hDp g14 l13 h13 i13
  clear st4
  simp only [List.setIfInBounds_toArray, List.set_cons_zero, List.set_cons_succ]
  go_wp2_with (with_reducible refine stop_region ?_)
  refine ⟨?_⟩
  refine wp_region_K [] [.val (.slice (some ⟨b3, o3, none⟩) 4 cp3),
      .val (.pointer (some ⟨b3, o3 + 2, none⟩)),
      .val (.agg #[.int .i64 (tpt K S DX DY (Bx, By)).1, .int .i64 (tpt K S DX DY (Bx, By)).2]),
      .val (.slice (some ⟨b3, o3, none⟩) 4 cp3),
      .val (.pointer (some ⟨b3, o3, none⟩)),
      .val (.agg #[.int .i64 (tpt K S DX DY (Ax, Ay)).1, .int .i64 (tpt K S DX DY (Ax, Ay)).2]),
      .val (.slice (some ⟨b3, o3, none⟩) 4 cp3),
      .val (.pointer (some ⟨b3, o3 + 4, none⟩)),
      .val (.agg #[.int .i64 (tpt K S DX DY (Cx, Cy)).1, .int .i64 (tpt K S DX DY (Cx, Cy)).2]),
      .val (.slice (some ⟨b3, o3, none⟩) 4 cp3),
      .val (.pointer (some ⟨b3, o3 + 6, none⟩)),
      .val (.agg #[.int .i64 (tpt K S DX DY (Dx, Dy)).1, .int .i64 (tpt K S DX DY (Dx, Dy)).2]),
      .of (fun v => ∃ cs, v = .agg cs ∧ SgC q1 q3 q4 (min (tpt K S DX DY (Ax, Ay)).1 (tpt K S DX DY (Bx, By)).1) (min (tpt K S DX DY (Ax, Ay)).2 (tpt K S DX DY (Bx, By)).2) (max (tpt K S DX DY (Ax, Ay)).1 (tpt K S DX DY (Bx, By)).1) (max (tpt K S DX DY (Ax, Ay)).2 (tpt K S DX DY (Bx, By)).2) O M cs),
      .made 49 8,
      .filledP 11 (fun cs => SgC q1 q3 q4 (min (tpt K S DX DY (Ax, Ay)).1 (tpt K S DX DY (Bx, By)).1) (min (tpt K S DX DY (Ax, Ay)).2 (tpt K S DX DY (Bx, By)).2) (max (tpt K S DX DY (Ax, Ay)).1 (tpt K S DX DY (Bx, By)).1) (max (tpt K S DX DY (Ax, Ay)).2 (tpt K S DX DY (Bx, By)).2) O M cs) 49]
    [[.ini 8], [.frm 0 60], [.frm 1 61], [.ini 8], [.frm 3 63], [.frm 4 64], [.ini 8], [.frm 6 66], [.frm 7 67], [.ini 8], [.frm 9 69], [.frm 10 70], [.frm 2 62, .frm 5 65, .frm 8 68, .frm 11 71], [], [.frm 13 11, .frm 12 72]]
    mixed (by kernel_rfl) (by kernel_rfl) (allPre_of ⟨trivial, trivial, trivial, trivial, trivial, trivial, trivial, trivial, trivial, trivial, trivial, trivial, trivial, trivial, trivial, trivial⟩)
    ⟨OpOk.quiet rfl ?_,
      OpOk.quiet rfl ?_,
      OpOk.quiet rfl ?_,
      OpOk.quiet rfl ?_,
      OpOk.quiet rfl ?_,
      OpOk.quiet rfl ?_,
      OpOk.quiet rfl ?_,
      OpOk.quiet rfl ?_,
      OpOk.quiet rfl ?_,
      OpOk.quiet rfl ?_,
      OpOk.quiet rfl ?_,
      OpOk.quiet rfl ?_,
      OpOk.call rfl ?_,
      OpOk.made (cs := #[.bool false, .bool false, .bool false, .bool false, .int .i64 0, .int .i64 0, .int .i64 0, .int .i64 0]) rfl rfl ?_,
      OpOk.fill (k := 13) rfl (by kernel_rfl) rfl (oldLt_of ⟨(fun _ h => (nomatch h)), (fun _ h => (nomatch h)), (fun _ h => (nomatch h)), (fun _ h => (nomatch h)), (fun _ h => (nomatch h)), (fun _ h => (nomatch h)), (fun _ h => (nomatch h)), (fun _ h => (nomatch h)), (fun _ h => (nomatch h)), (fun _ h => (nomatch h)), (fun _ h => (nomatch h)), (fun _ h => (nomatch h)), (fun _ h => (nomatch h)), (fun _ h => (nomatch h)), (fun _ h => (nomatch h)), trivial⟩) (fun a w_ hf => hf.1)
        (fun a w_ b old _ hf hp hb hs => by
          obtain ⟨-, ⟨_, _, cs, hv, hc⟩, -⟩ := hf
          obtain ⟨ans, rfl, ho⟩ := hc
          exact ⟨.skip, _, run_store_row 49 (.tmp 11) (.tmp 72) rfl b _ hp hv 49 old hb (by kernel_rfl) hs (by simp [Value.oneCell']), .inl rfl, ⟨ans, rfl, ho⟩, rfl⟩)
        (fun _ _ _ h hb => Keep.setRow h (.inl hb)), trivial⟩ ?_
  · intro a u _ hf
    simp [facts, Need.fact, Act.eval] at hf
    go_simp
  · intro a u _ hf
    simp [facts, Need.fact, Ent.val, Act.eval] at hf
    go_simp
  · intro a u hG hf
    simp [facts, Need.fact, Ent.val, Act.eval] at hf
    have hc := True.intro
    have y0' := (hG.cell (p := ⟨b3, o3, none⟩) (World.block_lt_of_cell? _ _ y0) (by simp)).trans y0
    have y1' := (hG.cell (p := ⟨b3, o3 + 1, none⟩) (World.block_lt_of_cell? _ _ y1) (by simp)).trans y1
    have y2' := (hG.cell (p := ⟨b3, o3 + 2, none⟩) (World.block_lt_of_cell? _ _ y2) (by simp)).trans y2
    have y3' := (hG.cell (p := ⟨b3, o3 + 2 + 1, none⟩) (World.block_lt_of_cell? _ _ y3) (by simp)).trans y3
    have y4' := (hG.cell (p := ⟨b3, o3 + 4, none⟩) (World.block_lt_of_cell? _ _ y4) (by simp)).trans y4
    have y5' := (hG.cell (p := ⟨b3, o3 + 4 + 1, none⟩) (World.block_lt_of_cell? _ _ y5) (by simp)).trans y5
    have y6' := (hG.cell (p := ⟨b3, o3 + 6, none⟩) (World.block_lt_of_cell? _ _ y6) (by simp)).trans y6
    have y7' := (hG.cell (p := ⟨b3, o3 + 6 + 1, none⟩) (World.block_lt_of_cell? _ _ y7) (by simp)).trans y7

    go_simp
  · intro a u _ hf
    simp [facts, Need.fact, Act.eval] at hf
    go_simp
  · intro a u _ hf
    simp [facts, Need.fact, Ent.val, Act.eval] at hf
    go_simp
  · intro a u hG hf
    simp [facts, Need.fact, Ent.val, Act.eval] at hf
    have hc := True.intro
    have y0' := (hG.cell (p := ⟨b3, o3, none⟩) (World.block_lt_of_cell? _ _ y0) (by simp)).trans y0
    have y1' := (hG.cell (p := ⟨b3, o3 + 1, none⟩) (World.block_lt_of_cell? _ _ y1) (by simp)).trans y1
    have y2' := (hG.cell (p := ⟨b3, o3 + 2, none⟩) (World.block_lt_of_cell? _ _ y2) (by simp)).trans y2
    have y3' := (hG.cell (p := ⟨b3, o3 + 2 + 1, none⟩) (World.block_lt_of_cell? _ _ y3) (by simp)).trans y3
    have y4' := (hG.cell (p := ⟨b3, o3 + 4, none⟩) (World.block_lt_of_cell? _ _ y4) (by simp)).trans y4
    have y5' := (hG.cell (p := ⟨b3, o3 + 4 + 1, none⟩) (World.block_lt_of_cell? _ _ y5) (by simp)).trans y5
    have y6' := (hG.cell (p := ⟨b3, o3 + 6, none⟩) (World.block_lt_of_cell? _ _ y6) (by simp)).trans y6
    have y7' := (hG.cell (p := ⟨b3, o3 + 6 + 1, none⟩) (World.block_lt_of_cell? _ _ y7) (by simp)).trans y7

    go_simp
  · intro a u _ hf
    simp [facts, Need.fact, Act.eval] at hf
    go_simp
  · intro a u _ hf
    simp [facts, Need.fact, Ent.val, Act.eval] at hf
    go_simp
  · intro a u hG hf
    simp [facts, Need.fact, Ent.val, Act.eval] at hf
    have hc := True.intro
    have y0' := (hG.cell (p := ⟨b3, o3, none⟩) (World.block_lt_of_cell? _ _ y0) (by simp)).trans y0
    have y1' := (hG.cell (p := ⟨b3, o3 + 1, none⟩) (World.block_lt_of_cell? _ _ y1) (by simp)).trans y1
    have y2' := (hG.cell (p := ⟨b3, o3 + 2, none⟩) (World.block_lt_of_cell? _ _ y2) (by simp)).trans y2
    have y3' := (hG.cell (p := ⟨b3, o3 + 2 + 1, none⟩) (World.block_lt_of_cell? _ _ y3) (by simp)).trans y3
    have y4' := (hG.cell (p := ⟨b3, o3 + 4, none⟩) (World.block_lt_of_cell? _ _ y4) (by simp)).trans y4
    have y5' := (hG.cell (p := ⟨b3, o3 + 4 + 1, none⟩) (World.block_lt_of_cell? _ _ y5) (by simp)).trans y5
    have y6' := (hG.cell (p := ⟨b3, o3 + 6, none⟩) (World.block_lt_of_cell? _ _ y6) (by simp)).trans y6
    have y7' := (hG.cell (p := ⟨b3, o3 + 6 + 1, none⟩) (World.block_lt_of_cell? _ _ y7) (by simp)).trans y7

    go_simp
  · intro a u _ hf
    simp [facts, Need.fact, Act.eval] at hf
    go_simp
  · intro a u _ hf
    simp [facts, Need.fact, Ent.val, Act.eval] at hf
    go_simp
  · intro a u hG hf
    simp [facts, Need.fact, Ent.val, Act.eval] at hf
    have hc := True.intro
    have y0' := (hG.cell (p := ⟨b3, o3, none⟩) (World.block_lt_of_cell? _ _ y0) (by simp)).trans y0
    have y1' := (hG.cell (p := ⟨b3, o3 + 1, none⟩) (World.block_lt_of_cell? _ _ y1) (by simp)).trans y1
    have y2' := (hG.cell (p := ⟨b3, o3 + 2, none⟩) (World.block_lt_of_cell? _ _ y2) (by simp)).trans y2
    have y3' := (hG.cell (p := ⟨b3, o3 + 2 + 1, none⟩) (World.block_lt_of_cell? _ _ y3) (by simp)).trans y3
    have y4' := (hG.cell (p := ⟨b3, o3 + 4, none⟩) (World.block_lt_of_cell? _ _ y4) (by simp)).trans y4
    have y5' := (hG.cell (p := ⟨b3, o3 + 4 + 1, none⟩) (World.block_lt_of_cell? _ _ y5) (by simp)).trans y5
    have y6' := (hG.cell (p := ⟨b3, o3 + 6, none⟩) (World.block_lt_of_cell? _ _ y6) (by simp)).trans y6
    have y7' := (hG.cell (p := ⟨b3, o3 + 6 + 1, none⟩) (World.block_lt_of_cell? _ _ y7) (by simp)).trans y7

    go_simp
  · intro a u hG hf
    simp [facts, Need.fact, Ent.val, Act.eval] at hf
    refine ⟨_, _, by go_simp, (hz _).mono ?_⟩
    rintro e w' ⟨ans, rfl, ha, hb⟩
    exact ⟨_, rfl, hb, _, rfl, ans, rfl, ha⟩
  · intro a u _ _
    go_simp
  intro u lw hw w6 hKp hE hI hDp
  simp [allE, allPut, Act.put, Act.eval, Ent.filledP, Ent.made, Ent.of, Ent.val] at hE
  obtain ⟨u0, u1, u2, u3, u4, u5, u6, u7, u8, u9, u10, u11, _, ⟨bz, u13, l13, h13, -⟩, ⟨c14, v14, cs14, hcs, g14⟩⟩ := hE
  obtain rfl : bz = c14 := by rw [u13] at v14; simpa using v14
  simp only [allPut, Act.put, u0, u1, u2, u3, u4, u5, u6, u7, u8, u9, u10, u11, u13]
  clear u0 u1 u2 u3 u4 u5 u6 u7 u8 u9 u10 u11 u13
  obtain ⟨ansz, rfl, haz⟩ := hcs
  generalize u (0 + 1 + 1 + 1 + 1 + 1 + 1 + 1 + 1 + 1 + 1 + 1 + 1) = ez at *
  have i13 := hI 13 (by simp)
  try simp at i13
  have nz : bz < w6.heap.size ∧ w5.heap.size ≤ bz := ⟨lt_of_some g14, by omega⟩
  have st6 := (st5.keep hKp (fun i x _ => by simp) (fun x hx => by simp at hx)).add g14
  clear hKp hI hDp g14 l13 h13 i13
  clear st5 hx hy hz y0 y1 y2 y3 y4 y5 y6 y7
  try simp only [List.setIfInBounds_toArray, List.set_cons_zero, List.set_cons_succ]
  go_wp2_with (first | (go_at_call 16; refine Stop.out ?_) | (with_reducible refine stop_region ?_))
  refine ⟨?_⟩
  refine (varyOf_c [(Ax, Ay), (Bx, By), (Cx, Cy), (Dx, Dy)] (by simp) _ _ (st6.slp4 3 rfl)).mono ?_
  rintro e w7 ⟨v7, rfl, sv7, hb⟩
  have st7 := st6.ext hb
  have sz7 := hb.size
  clear hb st6
  obtain ⟨A3, cp3, rfl, hk3⟩ := sv7
  obtain ⟨b7, o7, hA, y0, y1⟩ := hk3 0 _ rfl
  subst hA
  obtain ⟨b', o', hA, y2, y3⟩ := hk3 1 _ rfl
  cases hA
  obtain ⟨b', o', hA, y4, y5⟩ := hk3 2 _ rfl
  cases hA
  obtain ⟨b', o', hA, y6, y7⟩ := hk3 3 _ rfl
  cases hA
  clear hk3
  simp only [Nat.zero_mul, Nat.one_mul, Nat.add_zero, Nat.reduceMul] at y0 y1 y2 y3 y4 y5 y6 y7
  go_wp2_with (with_reducible refine stop_region ?_)
  refine ⟨?_⟩
  refine wp_region_K [] [.val (.slice (some ⟨b7, o7, none⟩) 4 cp3),
      .val (.pointer (some ⟨b7, o7, none⟩)),
      .val (.agg #[.int .i64 Ax, .int .i64 Ay]),
      .val (.slice (some ⟨b7, o7, none⟩) 4 cp3),
      .val (.pointer (some ⟨b7, o7 + 2, none⟩)),
      .val (.agg #[.int .i64 Bx, .int .i64 By]),
      .val (.slice (some ⟨b7, o7, none⟩) 4 cp3),
      .val (.pointer (some ⟨b7, o7 + 4, none⟩)),
      .val (.agg #[.int .i64 Cx, .int .i64 Cy]),
      .val (.slice (some ⟨b7, o7, none⟩) 4 cp3),
      .val (.pointer (some ⟨b7, o7 + 6, none⟩)),
      .val (.agg #[.int .i64 Dx, .int .i64 Dy]),
      .val (.bool O)]
    [[.ini 12], [.frm 0 75], [.frm 1 76], [.ini 12], [.frm 3 78], [.frm 4 79], [.ini 12], [.frm 6 81], [.frm 7 82], [.ini 12], [.frm 9 84], [.frm 10 85], [.frm 2 77, .frm 5 80, .frm 8 83, .frm 11 86]]
    mixed (by kernel_rfl) (by kernel_rfl) (allPre_of ⟨trivial, trivial, trivial, trivial, trivial, trivial, trivial, trivial, trivial, trivial, trivial, trivial, trivial, trivial⟩)
    ⟨OpOk.quiet rfl ?_,
      OpOk.quiet rfl ?_,
      OpOk.quiet rfl ?_,
      OpOk.quiet rfl ?_,
      OpOk.quiet rfl ?_,
      OpOk.quiet rfl ?_,
      OpOk.quiet rfl ?_,
      OpOk.quiet rfl ?_,
      OpOk.quiet rfl ?_,
      OpOk.quiet rfl ?_,
      OpOk.quiet rfl ?_,
      OpOk.quiet rfl ?_,
      OpOk.call rfl ?_, trivial⟩ ?_
  · intro a u _ hf
    simp [facts, Need.fact, Act.eval] at hf
    go_simp
  · intro a u _ hf
    simp [facts, Need.fact, Ent.val, Act.eval] at hf
    go_simp
  · intro a u hG hf
    simp [facts, Need.fact, Ent.val, Act.eval] at hf
    have hc := True.intro
    have y0' := (hG.cell (p := ⟨b7, o7, none⟩) (World.block_lt_of_cell? _ _ y0) (by simp)).trans y0
    have y1' := (hG.cell (p := ⟨b7, o7 + 1, none⟩) (World.block_lt_of_cell? _ _ y1) (by simp)).trans y1
    have y2' := (hG.cell (p := ⟨b7, o7 + 2, none⟩) (World.block_lt_of_cell? _ _ y2) (by simp)).trans y2
    have y3' := (hG.cell (p := ⟨b7, o7 + 2 + 1, none⟩) (World.block_lt_of_cell? _ _ y3) (by simp)).trans y3
    have y4' := (hG.cell (p := ⟨b7, o7 + 4, none⟩) (World.block_lt_of_cell? _ _ y4) (by simp)).trans y4
    have y5' := (hG.cell (p := ⟨b7, o7 + 4 + 1, none⟩) (World.block_lt_of_cell? _ _ y5) (by simp)).trans y5
    have y6' := (hG.cell (p := ⟨b7, o7 + 6, none⟩) (World.block_lt_of_cell? _ _ y6) (by simp)).trans y6
    have y7' := (hG.cell (p := ⟨b7, o7 + 6 + 1, none⟩) (World.block_lt_of_cell? _ _ y7) (by simp)).trans y7

    go_simp
  · intro a u _ hf
    simp [facts, Need.fact, Act.eval] at hf
    go_simp
  · intro a u _ hf
    simp [facts, Need.fact, Ent.val, Act.eval] at hf
    go_simp
  · intro a u hG hf
    simp [facts, Need.fact, Ent.val, Act.eval] at hf
    have hc := True.intro
    have y0' := (hG.cell (p := ⟨b7, o7, none⟩) (World.block_lt_of_cell? _ _ y0) (by simp)).trans y0
    have y1' := (hG.cell (p := ⟨b7, o7 + 1, none⟩) (World.block_lt_of_cell? _ _ y1) (by simp)).trans y1
    have y2' := (hG.cell (p := ⟨b7, o7 + 2, none⟩) (World.block_lt_of_cell? _ _ y2) (by simp)).trans y2
    have y3' := (hG.cell (p := ⟨b7, o7 + 2 + 1, none⟩) (World.block_lt_of_cell? _ _ y3) (by simp)).trans y3
    have y4' := (hG.cell (p := ⟨b7, o7 + 4, none⟩) (World.block_lt_of_cell? _ _ y4) (by simp)).trans y4
    have y5' := (hG.cell (p := ⟨b7, o7 + 4 + 1, none⟩) (World.block_lt_of_cell? _ _ y5) (by simp)).trans y5
    have y6' := (hG.cell (p := ⟨b7, o7 + 6, none⟩) (World.block_lt_of_cell? _ _ y6) (by simp)).trans y6
    have y7' := (hG.cell (p := ⟨b7, o7 + 6 + 1, none⟩) (World.block_lt_of_cell? _ _ y7) (by simp)).trans y7

    go_simp
  · intro a u _ hf
    simp [facts, Need.fact, Act.eval] at hf
    go_simp
  · intro a u _ hf
    simp [facts, Need.fact, Ent.val, Act.eval] at hf
    go_simp
  · intro a u hG hf
    simp [facts, Need.fact, Ent.val, Act.eval] at hf
    have hc := True.intro
    have y0' := (hG.cell (p := ⟨b7, o7, none⟩) (World.block_lt_of_cell? _ _ y0) (by simp)).trans y0
    have y1' := (hG.cell (p := ⟨b7, o7 + 1, none⟩) (World.block_lt_of_cell? _ _ y1) (by simp)).trans y1
    have y2' := (hG.cell (p := ⟨b7, o7 + 2, none⟩) (World.block_lt_of_cell? _ _ y2) (by simp)).trans y2
    have y3' := (hG.cell (p := ⟨b7, o7 + 2 + 1, none⟩) (World.block_lt_of_cell? _ _ y3) (by simp)).trans y3
    have y4' := (hG.cell (p := ⟨b7, o7 + 4, none⟩) (World.block_lt_of_cell? _ _ y4) (by simp)).trans y4
    have y5' := (hG.cell (p := ⟨b7, o7 + 4 + 1, none⟩) (World.block_lt_of_cell? _ _ y5) (by simp)).trans y5
    have y6' := (hG.cell (p := ⟨b7, o7 + 6, none⟩) (World.block_lt_of_cell? _ _ y6) (by simp)).trans y6
    have y7' := (hG.cell (p := ⟨b7, o7 + 6 + 1, none⟩) (World.block_lt_of_cell? _ _ y7) (by simp)).trans y7

    go_simp
  · intro a u _ hf
    simp [facts, Need.fact, Act.eval] at hf
    go_simp
  · intro a u _ hf
    simp [facts, Need.fact, Ent.val, Act.eval] at hf
    go_simp
  · intro a u hG hf
    simp [facts, Need.fact, Ent.val, Act.eval] at hf
    have hc := True.intro
    have y0' := (hG.cell (p := ⟨b7, o7, none⟩) (World.block_lt_of_cell? _ _ y0) (by simp)).trans y0
    have y1' := (hG.cell (p := ⟨b7, o7 + 1, none⟩) (World.block_lt_of_cell? _ _ y1) (by simp)).trans y1
    have y2' := (hG.cell (p := ⟨b7, o7 + 2, none⟩) (World.block_lt_of_cell? _ _ y2) (by simp)).trans y2
    have y3' := (hG.cell (p := ⟨b7, o7 + 2 + 1, none⟩) (World.block_lt_of_cell? _ _ y3) (by simp)).trans y3
    have y4' := (hG.cell (p := ⟨b7, o7 + 4, none⟩) (World.block_lt_of_cell? _ _ y4) (by simp)).trans y4
    have y5' := (hG.cell (p := ⟨b7, o7 + 4 + 1, none⟩) (World.block_lt_of_cell? _ _ y5) (by simp)).trans y5
    have y6' := (hG.cell (p := ⟨b7, o7 + 6, none⟩) (World.block_lt_of_cell? _ _ y6) (by simp)).trans y6
    have y7' := (hG.cell (p := ⟨b7, o7 + 6 + 1, none⟩) (World.block_lt_of_cell? _ _ y7) (by simp)).trans y7

    go_simp
  · intro a u _ hf
    simp [facts, Need.fact, Ent.val, Act.eval] at hf
    refine ⟨_, _, by go_simp, (hv _).mono ?_⟩
    rintro e w' ⟨rfl, hb⟩
    exact ⟨_, rfl, hb, rfl⟩
  intro u lw hw w8 hKp hE hI hDp
  simp [allE, Ent.val] at hE
  obtain ⟨u0, u1, u2, u3, u4, u5, u6, u7, u8, u9, u10, u11, u12⟩ := hE
  simp only [allPut, Act.put, u0, u1, u2, u3, u4, u5, u6, u7, u8, u9, u10, u11, u12]
  clear u0 u1 u2 u3 u4 u5 u6 u7 u8 u9 u10 u11 u12
  have st8 := st7.keep hKp (fun i x _ => by simp) (fun x hx => by simp at hx)
  clear hKp hI hDp st7 y0 y1 y2 y3 y4 y5 y6 y7
  try simp only [List.setIfInBounds_toArray, List.set_cons_zero, List.set_cons_succ]
  obtain ⟨nx1, nx2⟩ := nx
  obtain ⟨ny1, ny2⟩ := ny
  obtain ⟨nz1, nz2⟩ := nz
  have lt3 := (st8.known 3 _ rfl)
  have sz3 : w.heap.size + 1 + 1 + 1 < w3.heap.size := sz3'
  have nxy : by_ ≠ bx := by omega
  have nxz : bz ≠ bx := by omega
  have nyz : bz ≠ by_ := by omega
  have nyx : bx ≠ by_ := by omega
  have nzx : bx ≠ bz := by omega
  have nzy : by_ ≠ bz := by omega
  have gx : w.heap.size ≤ bx := by omega
  have gy : w.heap.size ≤ by_ := by omega
  have gz : w.heap.size ≤ bz := by omega
  clear lt3
  have hap : ∀ cz cy cx : Array Value, apart bx 2 0 [(bz, cz, 49), (by_, cy, 49), (bx, cx, 49), (w.heap.size + 1 + 1 + 1, #[.int .i64 Ax, .int .i64 Ay, .int .i64 Bx, .int .i64 By, .int .i64 Cx, .int .i64 Cy, .int .i64 Dx, .int .i64 Dy], 25), (w.heap.size + 1 + 1, #[.int .i64 Cx, .int .i64 Cy, .int .i64 Dx, .int .i64 Dy], 26), (w.heap.size + 1, #[.int .i64 Ax, .int .i64 Ay, .int .i64 Bx, .int .i64 By], 26), (w.heap.size, #[.int .u8 K, .int .i64 S, .int .i64 DX, .int .i64 DY], 23)] :=
    fun _ _ _ => ⟨.inr nxz, .inr nxy, .inl rfl, .inr (by show _ ≠ _; omega), .inr (by show _ ≠ _; omega), .inr (by show _ ≠ _; omega), .inr (by show _ ≠ _; omega), trivial⟩
  have hapy : ∀ cz cy cx : Array Value, apart by_ 1 0 [(bz, cz, 49), (by_, cy, 49), (bx, cx, 49), (w.heap.size + 1 + 1 + 1, #[.int .i64 Ax, .int .i64 Ay, .int .i64 Bx, .int .i64 By, .int .i64 Cx, .int .i64 Cy, .int .i64 Dx, .int .i64 Dy], 25), (w.heap.size + 1 + 1, #[.int .i64 Cx, .int .i64 Cy, .int .i64 Dx, .int .i64 Dy], 26), (w.heap.size + 1, #[.int .i64 Ax, .int .i64 Ay, .int .i64 Bx, .int .i64 By], 26), (w.heap.size, #[.int .u8 K, .int .i64 S, .int .i64 DX, .int .i64 DY], 23)] :=
    fun _ _ _ => ⟨.inr nyz, .inl rfl, .inr nyx, .inr (by show _ ≠ _; omega), .inr (by show _ ≠ _; omega), .inr (by show _ ≠ _; omega), .inr (by show _ ≠ _; omega), trivial⟩
  have hapz : ∀ cz cy cx : Array Value, apart bz 0 0 [(bz, cz, 49), (by_, cy, 49), (bx, cx, 49), (w.heap.size + 1 + 1 + 1, #[.int .i64 Ax, .int .i64 Ay, .int .i64 Bx, .int .i64 By, .int .i64 Cx, .int .i64 Cy, .int .i64 Dx, .int .i64 Dy], 25), (w.heap.size + 1 + 1, #[.int .i64 Cx, .int .i64 Cy, .int .i64 Dx, .int .i64 Dy], 26), (w.heap.size + 1, #[.int .i64 Ax, .int .i64 Ay, .int .i64 Bx, .int .i64 By], 26), (w.heap.size, #[.int .u8 K, .int .i64 S, .int .i64 DX, .int .i64 DY], 23)] :=
    fun _ _ _ => ⟨.inl rfl, .inr nzy, .inr nzx, .inr (by show _ ≠ _; omega), .inr (by show _ ≠ _; omega), .inr (by show _ ≠ _; omega), .inr (by show _ ≠ _; omega), trivial⟩
  cases O with
  | false =>
    have e1 := (hax rfl).symm
    have e2 := (hay rfl).symm
    have e3 := (haz rfl).symm
    subst e1 e2 e3
    clear hax hay haz
    have x0 := st8.cell 2 rfl 0
    have x1 := st8.cell 2 rfl 1
    have x2 := st8.cell 2 rfl 2
    have x3 := st8.cell 2 rfl 3
    have x4 := st8.cell 2 rfl 4
    have x5 := st8.cell 2 rfl 5
    have x6 := st8.cell 2 rfl 6
    have x7 := st8.cell 2 rfl 7
    have xf := fun o => st8.frozen 2 rfl o
    have y0 := st8.cell 1 rfl 0
    have y1 := st8.cell 1 rfl 1
    have y2 := st8.cell 1 rfl 2
    have y3 := st8.cell 1 rfl 3
    have y4 := st8.cell 1 rfl 4
    have y5 := st8.cell 1 rfl 5
    have y6 := st8.cell 1 rfl 6
    have y7 := st8.cell 1 rfl 7
    have z0 := st8.cell 0 rfl 0
    have z1 := st8.cell 0 rfl 1
    have z2 := st8.cell 0 rfl 2
    have z3 := st8.cell 0 rfl 3
    have z4 := st8.cell 0 rfl 4
    have z5 := st8.cell 0 rfl 5
    have z6 := st8.cell 0 rfl 6
    have z7 := st8.cell 0 rfl 7
    have t0 := st8.cell 6 rfl 0
    have t1 := st8.cell 6 rfl 1
    have t2 := st8.cell 6 rfl 2
    have t3 := st8.cell 6 rfl 3
    simp only [List.getElem?_toArray, List.getElem?_cons_zero, List.getElem?_cons_succ] at x0 x1 x2 x3 x4 x5 x6 x7 y0 y1 y2 y3 y4 y5 y6 y7 z0 z1 z2 z3 z4 z5 z6 z7 t0 t1 t2 t3
    go_wp2_with (first | (go_at_call 11; refine Stop.out ?_) | (with_reducible refine stop_region ?_))
    refine ⟨?_⟩
    refine (hr _).mono ?_
    rintro e w9 ⟨rfl, hb⟩
    have st9 := st8.ext hb
    clear hb st8
    clear x0 x1 x2 x3 x4 x5 x6 x7 y0 y1 y2 y3 y4 y5 y6 y7 z0 z1 z2 z3 z4 z5 z6 z7 t0 t1 t2 t3 xf
    have x0 := st9.cell 2 rfl 0
    have x1 := st9.cell 2 rfl 1
    have x2 := st9.cell 2 rfl 2
    have x3 := st9.cell 2 rfl 3
    have x4 := st9.cell 2 rfl 4
    have x5 := st9.cell 2 rfl 5
    have x6 := st9.cell 2 rfl 6
    have x7 := st9.cell 2 rfl 7
    have xf := fun o => st9.frozen 2 rfl o
    have y0 := st9.cell 1 rfl 0
    have y1 := st9.cell 1 rfl 1
    have y2 := st9.cell 1 rfl 2
    have y3 := st9.cell 1 rfl 3
    have y4 := st9.cell 1 rfl 4
    have y5 := st9.cell 1 rfl 5
    have y6 := st9.cell 1 rfl 6
    have y7 := st9.cell 1 rfl 7
    have z0 := st9.cell 0 rfl 0
    have z1 := st9.cell 0 rfl 1
    have z2 := st9.cell 0 rfl 2
    have z3 := st9.cell 0 rfl 3
    have z4 := st9.cell 0 rfl 4
    have z5 := st9.cell 0 rfl 5
    have z6 := st9.cell 0 rfl 6
    have z7 := st9.cell 0 rfl 7
    simp only [List.getElem?_toArray, List.getElem?_cons_zero, List.getElem?_cons_succ] at x0 x1 x2 x3 x4 x5 x6 x7 y0 y1 y2 y3 y4 y5 y6 y7 z0 z1 z2 z3 z4 z5 z6 z7
    have hea := eqArr2
    go_wp2_with (first | (go_at_call 9; refine Stop.out ?_) | (with_reducible refine stop_region ?_))
    refine ⟨?_⟩
    have st10 : Blk w ((((w9.setCell ⟨bx, 4, none⟩ (.int .i64 (min (tpt K S DX DY (Ax, Ay)).1 (tpt K S DX DY (Bx, By)).1))).setCell ⟨bx, 5, none⟩ (.int .i64 (min (tpt K S DX DY (Ax, Ay)).2 (tpt K S DX DY (Bx, By)).2))).setCell ⟨bx, 6, none⟩ (.int .i64 (max (tpt K S DX DY (Ax, Ay)).1 (tpt K S DX DY (Bx, By)).1))).setCell ⟨bx, 7, none⟩ (.int .i64 (max (tpt K S DX DY (Ax, Ay)).2 (tpt K S DX DY (Bx, By)).2))) [(bz, #[.bool q1, .bool q3, .bool q4, .bool M, .int .i64 (min (tpt K S DX DY (Ax, Ay)).1 (tpt K S DX DY (Bx, By)).1), .int .i64 (min (tpt K S DX DY (Ax, Ay)).2 (tpt K S DX DY (Bx, By)).2), .int .i64 (max (tpt K S DX DY (Ax, Ay)).1 (tpt K S DX DY (Bx, By)).1), .int .i64 (max (tpt K S DX DY (Ax, Ay)).2 (tpt K S DX DY (Bx, By)).2)], 49), (by_, #[.bool q1, .bool q3, .bool q4, .bool M, .int .i64 (min (tpt K S DX DY (Ax, Ay)).1 (tpt K S DX DY (Bx, By)).1), .int .i64 (min (tpt K S DX DY (Ax, Ay)).2 (tpt K S DX DY (Bx, By)).2), .int .i64 (max (tpt K S DX DY (Ax, Ay)).1 (tpt K S DX DY (Bx, By)).1), .int .i64 (max (tpt K S DX DY (Ax, Ay)).2 (tpt K S DX DY (Bx, By)).2)], 49), (bx, #[.bool q1, .bool q3, .bool q4, .bool M, .int .i64 (min (tpt K S DX DY (Ax, Ay)).1 (tpt K S DX DY (Bx, By)).1), .int .i64 (min (tpt K S DX DY (Ax, Ay)).2 (tpt K S DX DY (Bx, By)).2), .int .i64 (max (tpt K S DX DY (Ax, Ay)).1 (tpt K S DX DY (Bx, By)).1), .int .i64 (max (tpt K S DX DY (Ax, Ay)).2 (tpt K S DX DY (Bx, By)).2)], 49), (w.heap.size + 1 + 1 + 1, #[.int .i64 Ax, .int .i64 Ay, .int .i64 Bx, .int .i64 By, .int .i64 Cx, .int .i64 Cy, .int .i64 Dx, .int .i64 Dy], 25), (w.heap.size + 1 + 1, #[.int .i64 Cx, .int .i64 Cy, .int .i64 Dx, .int .i64 Dy], 26), (w.heap.size + 1, #[.int .i64 Ax, .int .i64 Ay, .int .i64 Bx, .int .i64 By], 26), (w.heap.size, #[.int .u8 K, .int .i64 S, .int .i64 DX, .int .i64 DY], 23)] :=
      (((st9.put 2 rfl (hap _ _ _) gx).put 2 rfl (hap _ _ _) gx).put 2 rfl (hap _ _ _) gx).put 2 rfl (hap _ _ _) gx
    refine (awake_c _).mono ?_
    rintro e wz ⟨rfl, hb⟩
    go_wp2
    go_ret
    exact ⟨rfl, st10.hb.trans (hb.mono st10.hb.size)⟩
  | true =>
    clear hax hay haz
    have x0 := st8.cell 2 rfl 0
    have x1 := st8.cell 2 rfl 1
    have x2 := st8.cell 2 rfl 2
    have x3 := st8.cell 2 rfl 3
    have x4 := st8.cell 2 rfl 4
    have x5 := st8.cell 2 rfl 5
    have x6 := st8.cell 2 rfl 6
    have x7 := st8.cell 2 rfl 7
    have xf := fun o => st8.frozen 2 rfl o
    have y0 := st8.cell 1 rfl 0
    have y1 := st8.cell 1 rfl 1
    have y2 := st8.cell 1 rfl 2
    have y3 := st8.cell 1 rfl 3
    have y4 := st8.cell 1 rfl 4
    have y5 := st8.cell 1 rfl 5
    have y6 := st8.cell 1 rfl 6
    have y7 := st8.cell 1 rfl 7
    have yf := fun o => st8.frozen 1 rfl o
    have z0 := st8.cell 0 rfl 0
    have z1 := st8.cell 0 rfl 1
    have z2 := st8.cell 0 rfl 2
    have z3 := st8.cell 0 rfl 3
    have z4 := st8.cell 0 rfl 4
    have z5 := st8.cell 0 rfl 5
    have z6 := st8.cell 0 rfl 6
    have z7 := st8.cell 0 rfl 7
    have zf := fun o => st8.frozen 0 rfl o
    have t0 := st8.cell 6 rfl 0
    have t1 := st8.cell 6 rfl 1
    have t2 := st8.cell 6 rfl 2
    have t3 := st8.cell 6 rfl 3
    simp only [List.getElem?_toArray, List.getElem?_cons_zero, List.getElem?_cons_succ] at x0 x1 x2 x3 x4 x5 x6 x7 y0 y1 y2 y3 y4 y5 y6 y7 z0 z1 z2 z3 z4 z5 z6 z7 t0 t1 t2 t3
    go_wp2_with (first | (go_at_call 11; refine Stop.out ?_) | (with_reducible refine stop_region ?_))
    refine ⟨?_⟩
    have st8' : Blk w (((w8.setCell ⟨bx, 3, none⟩ (.bool false)).setCell ⟨by_, 3, none⟩ (.bool false)).setCell ⟨bz, 3, none⟩ (.bool false)) [(bz, #[.bool q1, .bool q3, .bool q4, .bool false, .int .i64 (min (tpt K S DX DY (Ax, Ay)).1 (tpt K S DX DY (Bx, By)).1), .int .i64 (min (tpt K S DX DY (Ax, Ay)).2 (tpt K S DX DY (Bx, By)).2), .int .i64 (max (tpt K S DX DY (Ax, Ay)).1 (tpt K S DX DY (Bx, By)).1), .int .i64 (max (tpt K S DX DY (Ax, Ay)).2 (tpt K S DX DY (Bx, By)).2)], 49), (by_, #[.bool q1, .bool q3, .bool q4, .bool false, .int .i64 (min (tpt K S DX DY (Ax, Ay)).1 (tpt K S DX DY (Bx, By)).1), .int .i64 (min (tpt K S DX DY (Ax, Ay)).2 (tpt K S DX DY (Bx, By)).2), .int .i64 (max (tpt K S DX DY (Ax, Ay)).1 (tpt K S DX DY (Bx, By)).1), .int .i64 (max (tpt K S DX DY (Ax, Ay)).2 (tpt K S DX DY (Bx, By)).2)], 49), (bx, #[.bool q1, .bool q3, .bool q4, .bool false, .int .i64 (min Ax Bx), .int .i64 (min Ay By), .int .i64 (max Ax Bx), .int .i64 (max Ay By)], 49), (w.heap.size + 1 + 1 + 1, #[.int .i64 Ax, .int .i64 Ay, .int .i64 Bx, .int .i64 By, .int .i64 Cx, .int .i64 Cy, .int .i64 Dx, .int .i64 Dy], 25), (w.heap.size + 1 + 1, #[.int .i64 Cx, .int .i64 Cy, .int .i64 Dx, .int .i64 Dy], 26), (w.heap.size + 1, #[.int .i64 Ax, .int .i64 Ay, .int .i64 Bx, .int .i64 By], 26), (w.heap.size, #[.int .u8 K, .int .i64 S, .int .i64 DX, .int .i64 DY], 23)] :=
      ((st8.put 2 rfl (hap _ _ _) gx).put 1 rfl (hapy _ _ _) gy).put 0 rfl (hapz _ _ _) gz
    refine (hr _).mono ?_
    rintro e w9 ⟨rfl, hb⟩
    have st9 := st8'.ext hb
    clear hb st8 st8'
    clear x0 x1 x2 x3 x4 x5 x6 x7 y0 y1 y2 y3 y4 y5 y6 y7 z0 z1 z2 z3 z4 z5 z6 z7 t0 t1 t2 t3 xf yf zf
    have x0 := st9.cell 2 rfl 0
    have x1 := st9.cell 2 rfl 1
    have x2 := st9.cell 2 rfl 2
    have x3 := st9.cell 2 rfl 3
    have x4 := st9.cell 2 rfl 4
    have x5 := st9.cell 2 rfl 5
    have x6 := st9.cell 2 rfl 6
    have x7 := st9.cell 2 rfl 7
    have xf := fun o => st9.frozen 2 rfl o
    have y0 := st9.cell 1 rfl 0
    have y1 := st9.cell 1 rfl 1
    have y2 := st9.cell 1 rfl 2
    have y3 := st9.cell 1 rfl 3
    have y4 := st9.cell 1 rfl 4
    have y5 := st9.cell 1 rfl 5
    have y6 := st9.cell 1 rfl 6
    have y7 := st9.cell 1 rfl 7
    have z0 := st9.cell 0 rfl 0
    have z1 := st9.cell 0 rfl 1
    have z2 := st9.cell 0 rfl 2
    have z3 := st9.cell 0 rfl 3
    have z4 := st9.cell 0 rfl 4
    have z5 := st9.cell 0 rfl 5
    have z6 := st9.cell 0 rfl 6
    have z7 := st9.cell 0 rfl 7
    simp only [List.getElem?_toArray, List.getElem?_cons_zero, List.getElem?_cons_succ] at x0 x1 x2 x3 x4 x5 x6 x7 y0 y1 y2 y3 y4 y5 y6 y7 z0 z1 z2 z3 z4 z5 z6 z7
    have hea := eqArr2
    go_wp2_with (first | (go_at_call 9; refine Stop.out ?_) | (with_reducible refine stop_region ?_))
    refine ⟨?_⟩
    have st10 : Blk w ((((w9.setCell ⟨bx, 4, none⟩ (.int .i64 (min (tpt K S DX DY (Ax, Ay)).1 (tpt K S DX DY (Bx, By)).1))).setCell ⟨bx, 5, none⟩ (.int .i64 (min (tpt K S DX DY (Ax, Ay)).2 (tpt K S DX DY (Bx, By)).2))).setCell ⟨bx, 6, none⟩ (.int .i64 (max (tpt K S DX DY (Ax, Ay)).1 (tpt K S DX DY (Bx, By)).1))).setCell ⟨bx, 7, none⟩ (.int .i64 (max (tpt K S DX DY (Ax, Ay)).2 (tpt K S DX DY (Bx, By)).2))) [(bz, #[.bool q1, .bool q3, .bool q4, .bool false, .int .i64 (min (tpt K S DX DY (Ax, Ay)).1 (tpt K S DX DY (Bx, By)).1), .int .i64 (min (tpt K S DX DY (Ax, Ay)).2 (tpt K S DX DY (Bx, By)).2), .int .i64 (max (tpt K S DX DY (Ax, Ay)).1 (tpt K S DX DY (Bx, By)).1), .int .i64 (max (tpt K S DX DY (Ax, Ay)).2 (tpt K S DX DY (Bx, By)).2)], 49), (by_, #[.bool q1, .bool q3, .bool q4, .bool false, .int .i64 (min (tpt K S DX DY (Ax, Ay)).1 (tpt K S DX DY (Bx, By)).1), .int .i64 (min (tpt K S DX DY (Ax, Ay)).2 (tpt K S DX DY (Bx, By)).2), .int .i64 (max (tpt K S DX DY (Ax, Ay)).1 (tpt K S DX DY (Bx, By)).1), .int .i64 (max (tpt K S DX DY (Ax, Ay)).2 (tpt K S DX DY (Bx, By)).2)], 49), (bx, #[.bool q1, .bool q3, .bool q4, .bool false, .int .i64 (min (tpt K S DX DY (Ax, Ay)).1 (tpt K S DX DY (Bx, By)).1), .int .i64 (min (tpt K S DX DY (Ax, Ay)).2 (tpt K S DX DY (Bx, By)).2), .int .i64 (max (tpt K S DX DY (Ax, Ay)).1 (tpt K S DX DY (Bx, By)).1), .int .i64 (max (tpt K S DX DY (Ax, Ay)).2 (tpt K S DX DY (Bx, By)).2)], 49), (w.heap.size + 1 + 1 + 1, #[.int .i64 Ax, .int .i64 Ay, .int .i64 Bx, .int .i64 By, .int .i64 Cx, .int .i64 Cy, .int .i64 Dx, .int .i64 Dy], 25), (w.heap.size + 1 + 1, #[.int .i64 Cx, .int .i64 Cy, .int .i64 Dx, .int .i64 Dy], 26), (w.heap.size + 1, #[.int .i64 Ax, .int .i64 Ay, .int .i64 Bx, .int .i64 By], 26), (w.heap.size, #[.int .u8 K, .int .i64 S, .int .i64 DX, .int .i64 DY], 23)] :=
      (((st9.put 2 rfl (hap _ _ _) gx).put 2 rfl (hap _ _ _) gx).put 2 rfl (hap _ _ _) gx).put 2 rfl (hap _ _ _) gx
    refine (awake_c _).mono ?_
    rintro e wz ⟨rfl, hb⟩
    go_wp2
    go_ret
    exact ⟨rfl, st10.hb.trans (hb.mono st10.hb.size)⟩
end Go.Proofs.Ytkaoldmdikljiaa
