import Derived.Test.YtkaoldmdikljiaaVr
import Derived.Test.YtkaoldmdikljiaaJc
import Derived.Test.YtkaoldmdikljiaaAwake
set_option linter.unusedSimpArgs false
set_option linter.unusedVariables false
namespace Go.Proofs.Ytkaoldmdikljiaa
open Go.RowKit PF JR

theorem _root_.PF.Blk.slp1 {w u : World} {L : List (Nat × Array Value × TypeId)} (h : Blk w u L) (i : Nat) {b : Nat} {T : TypeId} {X0 Y0 : Int} (hi : L[i]? = some (b, #[.int .i64 X0, .int .i64 Y0], T)) : SlP u (.slice (some ⟨b, 0, none⟩) 1 1) [(X0, Y0)] := by
  have c := fun o => h.cell i hi o
  refine ⟨_, 1, rfl, fun k p hp => ⟨_, 0, rfl, ?_⟩⟩
  match k, hp with
  | 0, hp => cases hp; exact ⟨c 0, c 1⟩

set_option maxHeartbeats 4000000 in
set_option maxRecDepth 100000 in
theorem turnRect_c (K S DX DY X0 Y0 X1 Y1 U0 V0 U1 V1 PX PY : Int) (hK0 : 0 ≤ K) (w : World) :
    Calls Try.prog 3 #[.agg #[.int .u8 K, .int .i64 S, .int .i64 DX, .int .i64 DY], .agg #[.int .i64 X0, .int .i64 Y0, .int .i64 X1, .int .i64 Y1], .agg #[.int .i64 U0, .int .i64 V0, .int .i64 U1, .int .i64 V1], .agg #[.int .i64 PX, .int .i64 PY]] w fun e w' => e = .returned (.bool true) ∧ Below w.heap.size w w' := by
  have st0 := ((((Blk.nil w).push rfl #[.int .u8 K, .int .i64 S, .int .i64 DX, .int .i64 DY] 23).push (b := w.heap.size + 1) (by simp) #[.int .i64 X0, .int .i64 Y0, .int .i64 X1, .int .i64 Y1] 26).push (b := w.heap.size + 1 + 1) (by simp) #[.int .i64 U0, .int .i64 V0, .int .i64 U1, .int .i64 V1] 26).push (b := w.heap.size + 1 + 1 + 1) (by simp) #[.int .i64 PX, .int .i64 PY] 25
  go_enter Try.func3, Try.ntmps3
  go_wp2_with (with_reducible refine stop_region ?_)
  refine ⟨?_⟩
  refine wp_region_K [] [.val (.slice (some ⟨w.heap.size + 1, 0, none⟩) 2 2),
      .val (.agg #[.int .i64 1, .slice (some ⟨w.heap.size + 1, 0, none⟩) 2 2, .slice none 0 0]),
      .val (.slice (some ⟨w.heap.size + 1 + 1, 0, none⟩) 2 2),
      .val (.agg #[.int .i64 1, .slice (some ⟨w.heap.size + 1 + 1, 0, none⟩) 2 2, .slice none 0 0]),
      .made 30 3,
      .made 30 3,
      .filled 9 #[.int .i64 1, .slice (some ⟨w.heap.size + 1, 0, none⟩) 2 2, .slice none 0 0] 30,
      .filled 10 #[.int .i64 1, .slice (some ⟨w.heap.size + 1 + 1, 0, none⟩) 2 2, .slice none 0 0] 30]
    [[.ini 5], [.frm 0 16], [.ini 6], [.frm 2 18], [], [], [.frm 4 9, .frm 1 17], [.frm 5 10, .frm 3 19]]
    mixed (by kernel_rfl) (by kernel_rfl) (allPre_of ⟨trivial, trivial, trivial, trivial, trivial, trivial, trivial, trivial, trivial⟩)
    ⟨OpOk.quiet rfl ?_,
      OpOk.quiet rfl ?_,
      OpOk.quiet rfl ?_,
      OpOk.quiet rfl ?_,
      OpOk.made (cs := #[.int .i64 0, .slice none 0 0, .slice none 0 0]) rfl rfl ?_,
      OpOk.made (cs := #[.int .i64 0, .slice none 0 0, .slice none 0 0]) rfl rfl ?_,
      OpOk.fillRow (k := 4) rfl rfl (by kernel_rfl) rfl (oldLt_of ⟨(fun _ h => (nomatch h)), (fun _ h => (nomatch h)), (fun _ h => (nomatch h)), (fun _ h => (nomatch h)), (fun _ h => (nomatch h)), (fun _ h => (nomatch h)), (fun _ h => (nomatch h)), (fun _ h => (nomatch h)), trivial⟩) (by kernel_rfl) (by simp [Value.oneCell']) (fun a w hf => ⟨hf.1, hf.2.1.elim fun _ h => h.elim fun _ h => h⟩) (fun _ _ _ h hb => Keep.setRow h (.inl hb)),
      OpOk.fillRow (k := 5) rfl rfl (by kernel_rfl) rfl (oldLt_of ⟨(fun _ h => (nomatch h)), (fun _ h => (nomatch h)), (fun _ h => (nomatch h)), (fun _ h => (nomatch h)), (fun _ h => (nomatch h)), (fun _ h => (nomatch h)), (fun _ h => (nomatch h)), (fun _ h => (nomatch h)), trivial⟩) (by kernel_rfl) (by simp [Value.oneCell']) (fun a w hf => ⟨hf.1, hf.2.1.elim fun _ h => h.elim fun _ h => h⟩) (fun _ _ _ h hb => Keep.setRow h (.inl hb)), trivial⟩ ?_
  · intro a u _ hf
    simp [facts, Need.fact, Act.eval] at hf
    go_simp
  · intro a u _ hf
    simp [facts, Need.fact, Ent.val, Act.eval] at hf
    go_simp
  · intro a u _ hf
    simp [facts, Need.fact, Act.eval] at hf
    go_simp
  · intro a u _ hf
    simp [facts, Need.fact, Ent.val, Act.eval] at hf
    go_simp
  · intro a u _ _
    go_simp
  · intro a u _ _
    go_simp
  intro u lw hw wc hK hE hI hD
  simp [allE, allPut, Act.put, Act.eval, Ent.filledP, Ent.made, Ent.val] at hE
  obtain ⟨u0, u1, u2, u3, ⟨b4, u4, l4, h4, -⟩, ⟨b5, u5, l5, h5, -⟩, ⟨c6, v6, g6⟩, ⟨c7, v7, g7⟩⟩ := hE
  obtain rfl : b4 = c6 := by rw [u4] at v6; simpa using v6
  obtain rfl : b5 = c7 := by rw [u5] at v7; simpa using v7
  simp only [allPut, Act.put, u0, u1, u2, u3, u4, u5]
  clear u0 u1 u2 u3 u4 u5 v6 v7
  have i4 := hI 4 (by simp)
  have i5 := hI 5 (by simp)
  simp at i4 i5
  have ge4 : w.heap.size + 1 + 1 + 1 + 1 ≤ b4 := by omega
  have ge5 : w.heap.size + 1 + 1 + 1 + 1 ≤ b5 := by omega
  have st1 := ((st0.keep hK (fun i x _ => by simp) (fun x hx => by simp at hx)).add g7).add g6
  clear hK hI hD g6 g7 l4 h4 l5 h5 i4 i5 st0
  have t0 := st1.cell 5 rfl 0
  have t1 := st1.cell 5 rfl 1
  have t2 := st1.cell 5 rfl 2
  have t3 := st1.cell 5 rfl 3
  simp only [List.getElem?_toArray, List.getElem?_cons_zero, List.getElem?_cons_succ] at t0 t1 t2 t3
  go_wp2_with (first | (go_at_call 6; refine Stop.out ?_) | (with_reducible refine stop_region ?_))
  refine ⟨?_⟩
  refine (ivt_c K S DX DY _).mono ?_
  rintro e w1 ⟨rfl, hb⟩
  have st2 := st1.ext hb
  clear hb st1
  clear t0 t1 t2 t3
  by_cases hI : K ≤ 7 ∧ 1 ≤ S ∧ S ≤ 8 ∧ -4096 ≤ DX ∧ DX ≤ 4096 ∧ -4096 ≤ DY ∧ DY ≤ 4096
  case neg =>
    rw [decide_eq_false hI]
    go_wp2_with (first | (go_at_call 7; refine Stop.out ?_) | (go_at_call 9; refine Stop.out ?_) | (with_reducible refine stop_region ?_))
    refine ⟨?_⟩
    refine (awake_c _).mono ?_
    rintro e wz ⟨rfl, hb⟩
    go_wp2
    go_ret
    exact ⟨rfl, st2.hb.trans (hb.mono st2.hb.size)⟩
  rw [decide_eq_true hI]
  have o0 := st2.cell 0 rfl 0
  have o1 := st2.cell 0 rfl 1
  have o2 := st2.cell 0 rfl 2
  simp only [List.getElem?_toArray, List.getElem?_cons_zero, List.getElem?_cons_succ] at o0 o1 o2
  go_wp2_with (first | (go_at_call 7; refine Stop.out ?_) | (with_reducible refine stop_region ?_))
  refine ⟨?_⟩
  refine (isVary_c _ X0 Y0 X1 Y1 _ (st2.slp2 4 rfl)).mono ?_
  rintro e w2 ⟨rfl, hb⟩
  have st3 := st2.ext hb
  clear hb st2
  clear o0 o1 o2
  cases hr : (okP (X0, Y0) && okP (X1, Y1) && decide (X0 < X1) && decide (Y0 < Y1))
  case false =>
    go_wp2_with (first | (go_at_call 7; refine Stop.out ?_) | (go_at_call 9; refine Stop.out ?_) | (with_reducible refine stop_region ?_))
    refine ⟨?_⟩
    refine (awake_c _).mono ?_
    rintro e wz ⟨rfl, hb⟩
    go_wp2
    go_ret
    exact ⟨rfl, st3.hb.trans (hb.mono st3.hb.size)⟩
  have o0 := st3.cell 1 rfl 0
  have o1 := st3.cell 1 rfl 1
  have o2 := st3.cell 1 rfl 2
  simp only [List.getElem?_toArray, List.getElem?_cons_zero, List.getElem?_cons_succ] at o0 o1 o2
  go_wp2_with (first | (go_at_call 7; refine Stop.out ?_) | (with_reducible refine stop_region ?_))
  refine ⟨?_⟩
  refine (isVary_c _ U0 V0 U1 V1 _ (st3.slp2 3 rfl)).mono ?_
  rintro e w3 ⟨rfl, hb⟩
  have st4 := st3.ext hb
  clear hb st3
  clear o0 o1 o2
  cases hs : (okP (U0, V0) && okP (U1, V1) && decide (U0 < U1) && decide (V0 < V1))
  case false =>
    go_wp2_with (first | (go_at_call 7; refine Stop.out ?_) | (go_at_call 9; refine Stop.out ?_) | (with_reducible refine stop_region ?_))
    refine ⟨?_⟩
    refine (awake_c _).mono ?_
    rintro e wz ⟨rfl, hb⟩
    go_wp2
    go_ret
    exact ⟨rfl, st4.hb.trans (hb.mono st4.hb.size)⟩
  have p0 := st4.cell 2 rfl 0
  have p1 := st4.cell 2 rfl 1
  simp only [List.getElem?_toArray, List.getElem?_cons_zero, List.getElem?_cons_succ] at p0 p1
  go_wp2_with (first | (go_at_call 8; refine Stop.out ?_) | (with_reducible refine stop_region ?_))
  refine ⟨?_⟩
  have st5 := st4.push rfl #[.int .i64 PX, .int .i64 PY] 25
  refine (varyPoints_c [(PX, PY)] 1 1 (by simp) _ _ (st5.slp1 0 rfl)).mono ?_
  rintro e w4 ⟨rfl, hb⟩
  have st6 := (st5.ext hb).tail
  clear hb st4 st5
  have e2 : decide ((1 : Int) ≤ ([(PX, PY)] : List (Int × Int)).length ∧ (([(PX, PY)] : List (Int × Int)).length : Int) ≤ 1 ∧ ([(PX, PY)] : List (Int × Int)).all okP = true) = okP (PX, PY) := by simp
  rw [e2]
  clear e2
  clear p0 p1
  cases hp : okP (PX, PY)
  case false =>
    go_wp2_with (first | (go_at_call 9; refine Stop.out ?_) | (go_at_call 10; refine Stop.out ?_) | (with_reducible refine stop_region ?_))
    refine ⟨?_⟩
    refine (awake_c _).mono ?_
    rintro e wz ⟨rfl, hb⟩
    go_wp2
    go_ret
    exact ⟨rfl, st6.hb.trans (hb.mono st6.hb.size)⟩
  obtain ⟨⟨k1, k2⟩, k3, k4⟩ : ((-1024 ≤ X0 ∧ X0 ≤ 1024 ∧ -1024 ≤ Y0 ∧ Y0 ≤ 1024) ∧ (-1024 ≤ X1 ∧ X1 ≤ 1024 ∧ -1024 ≤ Y1 ∧ Y1 ≤ 1024)) ∧ X0 < X1 ∧ Y0 < Y1 := by simpa [okP, and_assoc] using hr
  obtain ⟨⟨l1, l2⟩, l3, l4⟩ : ((-1024 ≤ U0 ∧ U0 ≤ 1024 ∧ -1024 ≤ V0 ∧ V0 ≤ 1024) ∧ (-1024 ≤ U1 ∧ U1 ≤ 1024 ∧ -1024 ≤ V1 ∧ V1 ≤ 1024)) ∧ U0 < U1 ∧ V0 < V1 := by simpa [okP, and_assoc] using hs
  have m1 : -1024 ≤ PX ∧ PX ≤ 1024 ∧ -1024 ≤ PY ∧ PY ≤ 1024 := by simpa [okP] using hp
  have hK : 0 ≤ K ∧ K ≤ 7 := ⟨hK0, hI.1⟩
  have hS : 1 ≤ S ∧ S ≤ 8 := ⟨hI.2.1, hI.2.2.1⟩
  have hD := hI.2.2.2
  have hD' : -65536 ≤ DX ∧ DX ≤ 65536 ∧ -65536 ≤ DY ∧ DY ≤ 65536 := by omega
  have vr1 := fun u => varyRect_c K S DX DY X0 Y0 X1 Y1 hK hS hD' (by omega) (by omega) u
  have vr2 := fun u => varyRect_c K S DX DY U0 V0 U1 V1 hK hS hD' (by omega) (by omega) u
  have bp := tpt_bd K S DX DY hS hD (PX, PY) m1
  obtain ⟨ax, hax, askx⟩ := rectAsk_c X0 Y0 X1 Y1 U0 V0 U1 V1 PX PY (by omega) (by omega) (by omega)
  obtain ⟨ay, hay, asky⟩ := rectAsk_c (rx0 K S DX DY X0 Y0 X1 Y1) (ry0 K S DX DY X0 Y0 X1 Y1) (rx1 K S DX DY X0 Y0 X1 Y1) (ry1 K S DX DY X0 Y0 X1 Y1) (rx0 K S DX DY U0 V0 U1 V1) (ry0 K S DX DY U0 V0 U1 V1) (rx1 K S DX DY U0 V0 U1 V1) (ry1 K S DX DY U0 V0 U1 V1) (tpt K S DX DY (PX, PY)).1 (tpt K S DX DY (PX, PY)).2 (rect_bd hS hD k1 k2) (rect_bd hS hD l1 l2) bp
  rw [rect_area hK (by omega) k3 k4] at hay
  rw [rect_in hK (by omega) k3 k4, rect_con hK (by omega) k3 k4 l3 l4, rect_meet hK (by omega) k3 k4 l3 l4] at asky
  generalize decide (X0 ≤ PX ∧ PX ≤ X1 ∧ Y0 ≤ PY ∧ PY ≤ Y1) = q1 at *
  generalize decide (X0 ≤ U0 ∧ U1 ≤ X1 ∧ Y0 ≤ V0 ∧ V1 ≤ Y1) = q3 at *
  generalize decide (X0 ≤ U1 ∧ U0 ≤ X1 ∧ Y0 ≤ V1 ∧ V0 ≤ Y1) = q4 at *
  generalize decide (-180 ≤ X0 ∧ X0 ≤ 180 ∧ -90 ≤ Y0 ∧ Y0 ≤ 90 ∧ -180 ≤ X1 ∧ X1 ≤ 180 ∧ -90 ≤ Y1 ∧ Y1 ≤ 90) = q6 at *
  generalize decide (-180 ≤ rx0 K S DX DY X0 Y0 X1 Y1 ∧ rx0 K S DX DY X0 Y0 X1 Y1 ≤ 180 ∧ -90 ≤ ry0 K S DX DY X0 Y0 X1 Y1 ∧ ry0 K S DX DY X0 Y0 X1 Y1 ≤ 90 ∧ -180 ≤ rx1 K S DX DY X0 Y0 X1 Y1 ∧ rx1 K S DX DY X0 Y0 X1 Y1 ≤ 180 ∧ -90 ≤ ry1 K S DX DY X0 Y0 X1 Y1 ∧ ry1 K S DX DY X0 Y0 X1 Y1 ≤ 90) = q7 at *
  have ctr : tpt K S (2 * DX) (2 * DY) (X1 + X0, Y1 + Y0) = _ := rect_mid hK
  clear hr hs hp hI
  have r0 := st6.cell 4 rfl 0
  have r1 := st6.cell 4 rfl 1
  have r2 := st6.cell 4 rfl 2
  have r3 := st6.cell 4 rfl 3
  have s0 := st6.cell 3 rfl 0
  have s1 := st6.cell 3 rfl 1
  have s2 := st6.cell 3 rfl 2
  have s3 := st6.cell 3 rfl 3
  have p0 := st6.cell 2 rfl 0
  have p1 := st6.cell 2 rfl 1
  simp only [List.getElem?_toArray, List.getElem?_cons_zero, List.getElem?_cons_succ] at r0 r1 r2 r3 s0 s1 s2 s3 p0 p1
  go_wp2_with (first | (go_at_call 10; refine Stop.out ?_) | (with_reducible refine stop_region ?_))
  refine ⟨?_⟩
  refine (askx _).mono ?_
  rintro e w5 ⟨vp, vs, cp, cs, rfl, hb⟩
  have st7 := (st6.ext hb).push rfl #[.bool q1, .bool q1, .bool q3, .bool q4, .bool false, .bool q6, .bool true, .bool false, fl ax, .int .i64 (X1 + X0), .int .i64 (Y1 + Y0), .slice vp 5 cp, .slice vs 4 cs] 38
  clear hb st6
  clear r0 r1 r2 r3 s0 s1 s2 s3 p0 p1
  have t0 := st7.cell 6 rfl 0
  have t1 := st7.cell 6 rfl 1
  have t2 := st7.cell 6 rfl 2
  have t3 := st7.cell 6 rfl 3
  have r0 := st7.cell 5 rfl 0
  have r1 := st7.cell 5 rfl 1
  have r2 := st7.cell 5 rfl 2
  have r3 := st7.cell 5 rfl 3
  have s0 := st7.cell 4 rfl 0
  have s1 := st7.cell 4 rfl 1
  have s2 := st7.cell 4 rfl 2
  have s3 := st7.cell 4 rfl 3
  have p0 := st7.cell 3 rfl 0
  have p1 := st7.cell 3 rfl 1
  simp only [List.getElem?_toArray, List.getElem?_cons_zero, List.getElem?_cons_succ] at t0 t1 t2 t3 r0 r1 r2 r3 s0 s1 s2 s3 p0 p1
  go_wp2_with (with_reducible refine stop_region ?_)
  refine ⟨?_⟩
  refine wp_region_T [] [.val (.agg #[.int .u8 K, .int .i64 S, .int .i64 DX, .int .i64 DY]),
      .val (.agg #[.int .i64 X0, .int .i64 Y0, .int .i64 X1, .int .i64 Y1]),
      .val (.agg #[.int .i64 (rx0 K S DX DY X0 Y0 X1 Y1), .int .i64 (ry0 K S DX DY X0 Y0 X1 Y1), .int .i64 (rx1 K S DX DY X0 Y0 X1 Y1), .int .i64 (ry1 K S DX DY X0 Y0 X1 Y1)]),
      .val (.agg #[.int .u8 K, .int .i64 S, .int .i64 DX, .int .i64 DY]),
      .val (.agg #[.int .i64 U0, .int .i64 V0, .int .i64 U1, .int .i64 V1]),
      .val (.agg #[.int .i64 (rx0 K S DX DY U0 V0 U1 V1), .int .i64 (ry0 K S DX DY U0 V0 U1 V1), .int .i64 (rx1 K S DX DY U0 V0 U1 V1), .int .i64 (ry1 K S DX DY U0 V0 U1 V1)]),
      .val (.agg #[.int .u8 K, .int .i64 S, .int .i64 DX, .int .i64 DY]),
      .val (.agg #[.int .i64 PX, .int .i64 PY]),
      .slc 25 #[.int .i64 PX, .int .i64 PY],
      .slr [tpt K S DX DY (PX, PY)],
      .ptrOf 53,
      .val (.agg #[.int .i64 (tpt K S DX DY (PX, PY)).1, .int .i64 (tpt K S DX DY (PX, PY)).2]),
      .of (fun v => ∃ (vp' vs' : Option Addr) (cp' cs' : Nat), v = .agg #[.bool q1, .bool q1, .bool q3, .bool q4, .bool false, .bool q7, .bool true, .bool false, fl ay, .int .i64 (rx1 K S DX DY X0 Y0 X1 Y1 + rx0 K S DX DY X0 Y0 X1 Y1), .int .i64 (ry1 K S DX DY X0 Y0 X1 Y1 + ry0 K S DX DY X0 Y0 X1 Y1), .slice vp' 5 cp', .slice vs' 4 cs']),
      .made 38 13,
      .filledP 12 (fun cs0 => ∃ (vp' vs' : Option Addr) (cp' cs' : Nat), cs0 = #[.bool q1, .bool q1, .bool q3, .bool q4, .bool false, .bool q7, .bool true, .bool false, fl ay, .int .i64 (rx1 K S DX DY X0 Y0 X1 Y1 + rx0 K S DX DY X0 Y0 X1 Y1), .int .i64 (ry1 K S DX DY X0 Y0 X1 Y1 + ry0 K S DX DY X0 Y0 X1 Y1), .slice vp' 5 cp', .slice vs' 4 cs']) 38]
    [[.ini 4], [.ini 5], [.frm 0 44, .frm 1 45], [.ini 4], [.ini 6], [.frm 3 47, .frm 4 48], [.ini 4], [.ini 7], [.frm 7 51], [.frm 6 50, .frm 8 52], [.frm 9 53], [.frm 10 54, .frm 9 53], [.frm 2 46, .frm 5 49, .frm 11 55], [], [.frm 13 12, .frm 12 56]]
    mixed (by kernel_rfl) (by kernel_rfl) (allPre_of ⟨trivial, trivial, trivial, trivial, trivial, trivial, trivial, trivial, trivial, trivial, trivial, trivial, trivial, trivial, trivial, trivial⟩)
    ⟨OpOk.quiet rfl ?_,
      OpOk.quiet rfl ?_,
      OpOk.call rfl ?_,
      OpOk.quiet rfl ?_,
      OpOk.quiet rfl ?_,
      OpOk.call rfl ?_,
      OpOk.quiet rfl ?_,
      OpOk.quiet rfl ?_,
      slc_run rfl ?_,
      OpOk.call rfl ?_,
      OpOk.adds rfl ?_,
      OpOk.quiet rfl ?_,
      OpOk.call rfl ?_,
      OpOk.made (cs := #[.bool false, .bool false, .bool false, .bool false, .bool false, .bool false, .bool false, .bool false, fl 0, .int .i64 0, .int .i64 0, .slice none 0 0, .slice none 0 0]) rfl rfl ?_,
      OpOk.fillX 10 (k := 13) rfl (by kernel_rfl) rfl (oldLt_of ⟨(fun _ h => (nomatch h)), (fun _ h => (nomatch h)), (fun _ h => (nomatch h)), (fun _ h => (nomatch h)), (fun _ h => (nomatch h)), (fun _ h => (nomatch h)), (fun _ h => (nomatch h)), (fun _ h => (nomatch h)), (fun _ h => (nomatch h)), (fun _ h => (nomatch h)), (fun _ h => (nomatch h)), (fun _ h => (nomatch h)), (fun _ h => (nomatch h)), (fun _ h => (nomatch h)), (fun _ h => (nomatch h)), trivial⟩) (by decide) (fun e he a w l h _ _ b cells _ _ v lj hj hE => by cases he; exact hE) (fun a w hf => hf.1)
        (fun a w b old _ hf hp hb hs => by
          obtain ⟨-, ⟨_, _, vp', vs', cp', cs', hv⟩, -⟩ := hf
          exact ⟨.skip, _, run_store_row 38 (.tmp 12) (.tmp 56) rfl b _ hp hv 38 old hb (by kernel_rfl) hs (by simp [Value.oneCell']), .inl rfl, ⟨vp', vs', cp', cs', rfl⟩, rfl⟩)
        (fun _ _ _ h hb => Keep.setRow h (.inl hb)), trivial⟩ ?_
  · intro a u hG hf
    simp [facts, Need.fact, Act.eval] at hf
    have hc := True.intro
    have t0' := (hG.cell (p := ⟨w.heap.size, 0, none⟩) (st7.lt 6 rfl) (by simp)).trans t0
    have t1' := (hG.cell (p := ⟨w.heap.size, 1, none⟩) (st7.lt 6 rfl) (by simp)).trans t1
    have t2' := (hG.cell (p := ⟨w.heap.size, 2, none⟩) (st7.lt 6 rfl) (by simp)).trans t2
    have t3' := (hG.cell (p := ⟨w.heap.size, 3, none⟩) (st7.lt 6 rfl) (by simp)).trans t3
    have r0' := (hG.cell (p := ⟨w.heap.size + 1, 0, none⟩) (st7.lt 5 rfl) (by simp)).trans r0
    have r1' := (hG.cell (p := ⟨w.heap.size + 1, 1, none⟩) (st7.lt 5 rfl) (by simp)).trans r1
    have r2' := (hG.cell (p := ⟨w.heap.size + 1, 2, none⟩) (st7.lt 5 rfl) (by simp)).trans r2
    have r3' := (hG.cell (p := ⟨w.heap.size + 1, 3, none⟩) (st7.lt 5 rfl) (by simp)).trans r3
    have s0' := (hG.cell (p := ⟨w.heap.size + 1 + 1, 0, none⟩) (st7.lt 4 rfl) (by simp)).trans s0
    have s1' := (hG.cell (p := ⟨w.heap.size + 1 + 1, 1, none⟩) (st7.lt 4 rfl) (by simp)).trans s1
    have s2' := (hG.cell (p := ⟨w.heap.size + 1 + 1, 2, none⟩) (st7.lt 4 rfl) (by simp)).trans s2
    have s3' := (hG.cell (p := ⟨w.heap.size + 1 + 1, 3, none⟩) (st7.lt 4 rfl) (by simp)).trans s3
    have p0' := (hG.cell (p := ⟨w.heap.size + 1 + 1 + 1, 0, none⟩) (st7.lt 3 rfl) (by simp)).trans p0
    have p1' := (hG.cell (p := ⟨w.heap.size + 1 + 1 + 1, 1, none⟩) (st7.lt 3 rfl) (by simp)).trans p1

    go_simp
  · intro a u hG hf
    simp [facts, Need.fact, Act.eval] at hf
    have hc := True.intro
    have t0' := (hG.cell (p := ⟨w.heap.size, 0, none⟩) (st7.lt 6 rfl) (by simp)).trans t0
    have t1' := (hG.cell (p := ⟨w.heap.size, 1, none⟩) (st7.lt 6 rfl) (by simp)).trans t1
    have t2' := (hG.cell (p := ⟨w.heap.size, 2, none⟩) (st7.lt 6 rfl) (by simp)).trans t2
    have t3' := (hG.cell (p := ⟨w.heap.size, 3, none⟩) (st7.lt 6 rfl) (by simp)).trans t3
    have r0' := (hG.cell (p := ⟨w.heap.size + 1, 0, none⟩) (st7.lt 5 rfl) (by simp)).trans r0
    have r1' := (hG.cell (p := ⟨w.heap.size + 1, 1, none⟩) (st7.lt 5 rfl) (by simp)).trans r1
    have r2' := (hG.cell (p := ⟨w.heap.size + 1, 2, none⟩) (st7.lt 5 rfl) (by simp)).trans r2
    have r3' := (hG.cell (p := ⟨w.heap.size + 1, 3, none⟩) (st7.lt 5 rfl) (by simp)).trans r3
    have s0' := (hG.cell (p := ⟨w.heap.size + 1 + 1, 0, none⟩) (st7.lt 4 rfl) (by simp)).trans s0
    have s1' := (hG.cell (p := ⟨w.heap.size + 1 + 1, 1, none⟩) (st7.lt 4 rfl) (by simp)).trans s1
    have s2' := (hG.cell (p := ⟨w.heap.size + 1 + 1, 2, none⟩) (st7.lt 4 rfl) (by simp)).trans s2
    have s3' := (hG.cell (p := ⟨w.heap.size + 1 + 1, 3, none⟩) (st7.lt 4 rfl) (by simp)).trans s3
    have p0' := (hG.cell (p := ⟨w.heap.size + 1 + 1 + 1, 0, none⟩) (st7.lt 3 rfl) (by simp)).trans p0
    have p1' := (hG.cell (p := ⟨w.heap.size + 1 + 1 + 1, 1, none⟩) (st7.lt 3 rfl) (by simp)).trans p1

    go_simp
  · intro a u _ hf
    simp [facts, Need.fact, Ent.val, Act.eval] at hf
    refine ⟨_, _, by go_simp, (vr1 _).mono ?_⟩
    rintro e w' ⟨rfl, hb⟩
    exact ⟨_, rfl, hb, rfl⟩
  · intro a u hG hf
    simp [facts, Need.fact, Act.eval] at hf
    have hc := True.intro
    have t0' := (hG.cell (p := ⟨w.heap.size, 0, none⟩) (st7.lt 6 rfl) (by simp)).trans t0
    have t1' := (hG.cell (p := ⟨w.heap.size, 1, none⟩) (st7.lt 6 rfl) (by simp)).trans t1
    have t2' := (hG.cell (p := ⟨w.heap.size, 2, none⟩) (st7.lt 6 rfl) (by simp)).trans t2
    have t3' := (hG.cell (p := ⟨w.heap.size, 3, none⟩) (st7.lt 6 rfl) (by simp)).trans t3
    have r0' := (hG.cell (p := ⟨w.heap.size + 1, 0, none⟩) (st7.lt 5 rfl) (by simp)).trans r0
    have r1' := (hG.cell (p := ⟨w.heap.size + 1, 1, none⟩) (st7.lt 5 rfl) (by simp)).trans r1
    have r2' := (hG.cell (p := ⟨w.heap.size + 1, 2, none⟩) (st7.lt 5 rfl) (by simp)).trans r2
    have r3' := (hG.cell (p := ⟨w.heap.size + 1, 3, none⟩) (st7.lt 5 rfl) (by simp)).trans r3
    have s0' := (hG.cell (p := ⟨w.heap.size + 1 + 1, 0, none⟩) (st7.lt 4 rfl) (by simp)).trans s0
    have s1' := (hG.cell (p := ⟨w.heap.size + 1 + 1, 1, none⟩) (st7.lt 4 rfl) (by simp)).trans s1
    have s2' := (hG.cell (p := ⟨w.heap.size + 1 + 1, 2, none⟩) (st7.lt 4 rfl) (by simp)).trans s2
    have s3' := (hG.cell (p := ⟨w.heap.size + 1 + 1, 3, none⟩) (st7.lt 4 rfl) (by simp)).trans s3
    have p0' := (hG.cell (p := ⟨w.heap.size + 1 + 1 + 1, 0, none⟩) (st7.lt 3 rfl) (by simp)).trans p0
    have p1' := (hG.cell (p := ⟨w.heap.size + 1 + 1 + 1, 1, none⟩) (st7.lt 3 rfl) (by simp)).trans p1

    go_simp
  · intro a u hG hf
    simp [facts, Need.fact, Act.eval] at hf
    have hc := True.intro
    have t0' := (hG.cell (p := ⟨w.heap.size, 0, none⟩) (st7.lt 6 rfl) (by simp)).trans t0
    have t1' := (hG.cell (p := ⟨w.heap.size, 1, none⟩) (st7.lt 6 rfl) (by simp)).trans t1
    have t2' := (hG.cell (p := ⟨w.heap.size, 2, none⟩) (st7.lt 6 rfl) (by simp)).trans t2
    have t3' := (hG.cell (p := ⟨w.heap.size, 3, none⟩) (st7.lt 6 rfl) (by simp)).trans t3
    have r0' := (hG.cell (p := ⟨w.heap.size + 1, 0, none⟩) (st7.lt 5 rfl) (by simp)).trans r0
    have r1' := (hG.cell (p := ⟨w.heap.size + 1, 1, none⟩) (st7.lt 5 rfl) (by simp)).trans r1
    have r2' := (hG.cell (p := ⟨w.heap.size + 1, 2, none⟩) (st7.lt 5 rfl) (by simp)).trans r2
    have r3' := (hG.cell (p := ⟨w.heap.size + 1, 3, none⟩) (st7.lt 5 rfl) (by simp)).trans r3
    have s0' := (hG.cell (p := ⟨w.heap.size + 1 + 1, 0, none⟩) (st7.lt 4 rfl) (by simp)).trans s0
    have s1' := (hG.cell (p := ⟨w.heap.size + 1 + 1, 1, none⟩) (st7.lt 4 rfl) (by simp)).trans s1
    have s2' := (hG.cell (p := ⟨w.heap.size + 1 + 1, 2, none⟩) (st7.lt 4 rfl) (by simp)).trans s2
    have s3' := (hG.cell (p := ⟨w.heap.size + 1 + 1, 3, none⟩) (st7.lt 4 rfl) (by simp)).trans s3
    have p0' := (hG.cell (p := ⟨w.heap.size + 1 + 1 + 1, 0, none⟩) (st7.lt 3 rfl) (by simp)).trans p0
    have p1' := (hG.cell (p := ⟨w.heap.size + 1 + 1 + 1, 1, none⟩) (st7.lt 3 rfl) (by simp)).trans p1

    go_simp
  · intro a u _ hf
    simp [facts, Need.fact, Ent.val, Act.eval] at hf
    refine ⟨_, _, by go_simp, (vr2 _).mono ?_⟩
    rintro e w' ⟨rfl, hb⟩
    exact ⟨_, rfl, hb, rfl⟩
  · intro a u hG hf
    simp [facts, Need.fact, Act.eval] at hf
    have hc := True.intro
    have t0' := (hG.cell (p := ⟨w.heap.size, 0, none⟩) (st7.lt 6 rfl) (by simp)).trans t0
    have t1' := (hG.cell (p := ⟨w.heap.size, 1, none⟩) (st7.lt 6 rfl) (by simp)).trans t1
    have t2' := (hG.cell (p := ⟨w.heap.size, 2, none⟩) (st7.lt 6 rfl) (by simp)).trans t2
    have t3' := (hG.cell (p := ⟨w.heap.size, 3, none⟩) (st7.lt 6 rfl) (by simp)).trans t3
    have r0' := (hG.cell (p := ⟨w.heap.size + 1, 0, none⟩) (st7.lt 5 rfl) (by simp)).trans r0
    have r1' := (hG.cell (p := ⟨w.heap.size + 1, 1, none⟩) (st7.lt 5 rfl) (by simp)).trans r1
    have r2' := (hG.cell (p := ⟨w.heap.size + 1, 2, none⟩) (st7.lt 5 rfl) (by simp)).trans r2
    have r3' := (hG.cell (p := ⟨w.heap.size + 1, 3, none⟩) (st7.lt 5 rfl) (by simp)).trans r3
    have s0' := (hG.cell (p := ⟨w.heap.size + 1 + 1, 0, none⟩) (st7.lt 4 rfl) (by simp)).trans s0
    have s1' := (hG.cell (p := ⟨w.heap.size + 1 + 1, 1, none⟩) (st7.lt 4 rfl) (by simp)).trans s1
    have s2' := (hG.cell (p := ⟨w.heap.size + 1 + 1, 2, none⟩) (st7.lt 4 rfl) (by simp)).trans s2
    have s3' := (hG.cell (p := ⟨w.heap.size + 1 + 1, 3, none⟩) (st7.lt 4 rfl) (by simp)).trans s3
    have p0' := (hG.cell (p := ⟨w.heap.size + 1 + 1 + 1, 0, none⟩) (st7.lt 3 rfl) (by simp)).trans p0
    have p1' := (hG.cell (p := ⟨w.heap.size + 1 + 1 + 1, 1, none⟩) (st7.lt 3 rfl) (by simp)).trans p1

    go_simp
  · intro a u hG hf
    simp [facts, Need.fact, Act.eval] at hf
    have hc := True.intro
    have t0' := (hG.cell (p := ⟨w.heap.size, 0, none⟩) (st7.lt 6 rfl) (by simp)).trans t0
    have t1' := (hG.cell (p := ⟨w.heap.size, 1, none⟩) (st7.lt 6 rfl) (by simp)).trans t1
    have t2' := (hG.cell (p := ⟨w.heap.size, 2, none⟩) (st7.lt 6 rfl) (by simp)).trans t2
    have t3' := (hG.cell (p := ⟨w.heap.size, 3, none⟩) (st7.lt 6 rfl) (by simp)).trans t3
    have r0' := (hG.cell (p := ⟨w.heap.size + 1, 0, none⟩) (st7.lt 5 rfl) (by simp)).trans r0
    have r1' := (hG.cell (p := ⟨w.heap.size + 1, 1, none⟩) (st7.lt 5 rfl) (by simp)).trans r1
    have r2' := (hG.cell (p := ⟨w.heap.size + 1, 2, none⟩) (st7.lt 5 rfl) (by simp)).trans r2
    have r3' := (hG.cell (p := ⟨w.heap.size + 1, 3, none⟩) (st7.lt 5 rfl) (by simp)).trans r3
    have s0' := (hG.cell (p := ⟨w.heap.size + 1 + 1, 0, none⟩) (st7.lt 4 rfl) (by simp)).trans s0
    have s1' := (hG.cell (p := ⟨w.heap.size + 1 + 1, 1, none⟩) (st7.lt 4 rfl) (by simp)).trans s1
    have s2' := (hG.cell (p := ⟨w.heap.size + 1 + 1, 2, none⟩) (st7.lt 4 rfl) (by simp)).trans s2
    have s3' := (hG.cell (p := ⟨w.heap.size + 1 + 1, 3, none⟩) (st7.lt 4 rfl) (by simp)).trans s3
    have p0' := (hG.cell (p := ⟨w.heap.size + 1 + 1 + 1, 0, none⟩) (st7.lt 3 rfl) (by simp)).trans p0
    have p1' := (hG.cell (p := ⟨w.heap.size + 1 + 1 + 1, 1, none⟩) (st7.lt 3 rfl) (by simp)).trans p1

    go_simp
  · intro a u _ hf
    simp [facts, Need.fact, Ent.val, Act.eval] at hf
    go_simp
  · intro a u hG hf
    obtain ⟨⟨_, _, f1⟩, ⟨_, _, b, f2, f3, f4, f5⟩, -⟩ := hf
    have f1' : a.eval (.tmp 50) = .agg #[.int .u8 K, .int .i64 S, .int .i64 DX, .int .i64 DY] := f1
    have f2' : a.eval (.tmp 52) = .slice (some ⟨b, 0, none⟩) 1 1 := f2
    have hs : SlP u (.slice (some ⟨b, 0, none⟩) 1 1) [(PX, PY)] := ((Blk.nil u).add f5).slp1 0 rfl
    clear f1 f2
    simp [Act.eval] at f1' f2'
    refine ⟨_, _, by go_simp, (varyTurned_n K S DX DY hK hS hD' [(PX, PY)] (by intro q hq; simp at hq; subst hq; simp only; omega) (by simp) _ _ hs).mono ?_⟩
    rintro e w' ⟨v', rfl, hv, hb⟩
    exact ⟨_, rfl, hb, hv⟩
  · intro a u hG hf
    obtain ⟨⟨_, _, A, c, f1, f2⟩, -⟩ := hf
    have f1' : a.eval (.tmp 53) = .slice A 1 c := f1
    have f3 := f1'
    obtain ⟨b, f5, -⟩ := f2 0 _ rfl
    subst f5
    simp [Act.eval] at f1'
    exact ⟨_, _, by go_simp, Ext.refl _, _, 1, c, f3, rfl⟩
  · intro a u hG hf
    obtain ⟨⟨_, _, A0, n0, c0, f1, f2⟩, ⟨_, _, A, c, f3, f4⟩, -⟩ := hf
    obtain ⟨b, f5, -, -, f6, f7⟩ := f4 0 _ rfl
    have f8 : a.eval (.tmp 53) = .slice A 1 c := f3
    rw [f8] at f1
    subst f5
    cases f1
    clear f3 f4 f8
    simp only [Nat.zero_mul, Nat.add_zero, Nat.zero_add] at f6 f7
    simp [Act.eval] at f2
    go_simp
  · intro a u hG hf
    simp [facts, Need.fact, Ent.val, Act.eval] at hf
    refine ⟨_, _, by go_simp, (asky _).mono ?_⟩
    rintro e w' ⟨vp', vs', cp', cs', rfl, hb⟩
    exact ⟨_, rfl, hb, vp', vs', cp', cs', rfl⟩
  · intro a u _ _
    go_simp
  intro u lw hw wd hK_ hE hI hD_
  simp [allE, allPut, Act.put, Act.eval, Ent.filledP, Ent.made, Ent.of, Ent.ptrOf, Ent.slc, Ent.slr, Ent.val] at hE
  obtain ⟨u0, u1, u2, u3, u4, u5, u6, u7, _, _, _, _, _, ⟨b13, u13, l13, h13, -⟩, ⟨c14, v14, cs14, ⟨vp', vs', cp', cs', rfl⟩, g14⟩⟩ := hE
  obtain rfl : b13 = c14 := by rw [u13] at v14; simpa using v14
  simp only [allPut, Act.put, u0, u1, u2, u3, u4, u5, u6, u7, u13]
  clear u0 u1 u2 u3 u4 u5 u6 u7 u13
  generalize u (0 + 1 + 1 + 1 + 1 + 1 + 1 + 1 + 1 + 1 + 1 + 1 + 1) = e12 at *
  generalize u (0 + 1 + 1 + 1 + 1 + 1 + 1 + 1 + 1 + 1 + 1 + 1) = e11 at *
  generalize u (0 + 1 + 1 + 1 + 1 + 1 + 1 + 1 + 1 + 1 + 1) = e10 at *
  generalize u (0 + 1 + 1 + 1 + 1 + 1 + 1 + 1 + 1 + 1) = e9 at *
  generalize u (0 + 1 + 1 + 1 + 1 + 1 + 1 + 1 + 1) = e8 at *
  have i13 := hI 13 (by simp)
  simp at i13
  have st8 := (st7.keep hK_ (fun i x _ => by simp) (fun x hx => by simp at hx)).add g14
  have ge13 : w.heap.size + 1 + 1 + 1 + 1 ≤ b13 := by have q1 := st7.lt 3 rfl; simp at q1; omega
  clear hK_ hI hD_ g14 v14 l13 h13 i13
  clear t0 t1 t2 t3 r0 r1 r2 r3 s0 s1 s2 s3 p0 p1
  clear vr1 vr2 asky askx st7
  have t0 := st8.cell 7 rfl 0
  have t1 := st8.cell 7 rfl 1
  have t2 := st8.cell 7 rfl 2
  have t3 := st8.cell 7 rfl 3
  simp only [List.getElem?_toArray, List.getElem?_cons_zero, List.getElem?_cons_succ] at t0 t1 t2 t3
  have st9 := st8.push rfl #[.int .u8 K, .int .i64 S, .int .i64 DX, .int .i64 DY] 23
  go_wp2_with (with_reducible refine stop_region ?_)
  refine ⟨?_⟩
  clear t0 t1 t2 t3
  have t0 := st8.cell 7 rfl 0
  have t1 := st8.cell 7 rfl 1
  have t2 := st8.cell 7 rfl 2
  have t3 := st8.cell 7 rfl 3
  simp only [List.getElem?_toArray, List.getElem?_cons_zero, List.getElem?_cons_succ] at t0 t1 t2 t3
  have hta : ∀ (x : Obj) (o : Nat), (wd.alloc x).cell? ⟨w.heap.size, o, none⟩ = wd.cell? ⟨w.heap.size, o, none⟩ := fun x o => World.cell?_of_block (Below.heap_alloc _ _ _ (st8.lt 7 rfl))
  go_region
  clear hta
  clear t0 t1 t2 t3
  have st9 := (st8.push rfl #[.int .u8 K, .int .i64 S, .int .i64 (2 * DX), .int .i64 (2 * DY)] 23).drew
  clear st8
  have v0 := st9.cell 0 rfl 0
  have v1 := st9.cell 0 rfl 1
  have v2 := st9.cell 0 rfl 2
  have v3 := st9.cell 0 rfl 3
  have x0 := st9.cell 2 rfl 0
  have x1 := st9.cell 2 rfl 1
  have x2 := st9.cell 2 rfl 2
  have x3 := st9.cell 2 rfl 3
  have x4 := st9.cell 2 rfl 4
  have x5 := st9.cell 2 rfl 5
  have x6 := st9.cell 2 rfl 6
  have x7 := st9.cell 2 rfl 7
  have x8 := st9.cell 2 rfl 8
  have x9 := st9.cell 2 rfl 9
  have x10 := st9.cell 2 rfl 10
  have x11 := st9.cell 2 rfl 11
  have x12 := st9.cell 2 rfl 12
  simp only [List.getElem?_toArray, List.getElem?_cons_zero, List.getElem?_cons_succ] at v0 v1 v2 v3 x0 x1 x2 x3 x4 x5 x6 x7 x8 x9 x10 x11 x12
  go_wp2_with (first | (go_at_call 13; refine Stop.out ?_) | (with_reducible refine stop_region ?_))
  refine ⟨?_⟩
  refine (tp_c K (X1 + X0) (Y1 + Y0) S (2 * DX) (2 * DY) hK (by omega) hS (by omega) _).mono ?_
  rw [ctr]
  rintro e w9 ⟨rfl, hb⟩
  have st10 := (st9.ext hb).push rfl #[.int .i64 (rx1 K S DX DY X0 Y0 X1 Y1 + rx0 K S DX DY X0 Y0 X1 Y1), .int .i64 (ry1 K S DX DY X0 Y0 X1 Y1 + ry0 K S DX DY X0 Y0 X1 Y1)] 25
  clear hb st9 ctr
  clear v0 v1 v2 v3 x0 x1 x2 x3 x4 x5 x6 x7 x8 x9 x10 x11 x12
  have v0 := st10.cell 0 rfl 0
  have v1 := st10.cell 0 rfl 1
  have x0 := st10.cell 3 rfl 0
  have x1 := st10.cell 3 rfl 1
  have x2 := st10.cell 3 rfl 2
  have x3 := st10.cell 3 rfl 3
  have x4 := st10.cell 3 rfl 4
  have x5 := st10.cell 3 rfl 5
  have x6 := st10.cell 3 rfl 6
  have x7 := st10.cell 3 rfl 7
  have x8 := st10.cell 3 rfl 8
  have x9 := st10.cell 3 rfl 9
  have x10 := st10.cell 3 rfl 10
  have x11 := st10.cell 3 rfl 11
  have x12 := st10.cell 3 rfl 12
  have y0 := st10.cell 2 rfl 0
  have y1 := st10.cell 2 rfl 1
  have y2 := st10.cell 2 rfl 2
  have y3 := st10.cell 2 rfl 3
  have y4 := st10.cell 2 rfl 4
  have y5 := st10.cell 2 rfl 5
  have y6 := st10.cell 2 rfl 6
  have y7 := st10.cell 2 rfl 7
  have y8 := st10.cell 2 rfl 8
  have y9 := st10.cell 2 rfl 9
  have y10 := st10.cell 2 rfl 10
  have y11 := st10.cell 2 rfl 11
  have y12 := st10.cell 2 rfl 12
  have t0 := st10.cell 9 rfl 0
  have t1 := st10.cell 9 rfl 1
  simp only [List.getElem?_toArray, List.getElem?_cons_zero, List.getElem?_cons_succ] at v0 v1 x0 x1 x2 x3 x4 x5 x6 x7 x8 x9 x10 x11 x12 y0 y1 y2 y3 y4 y5 y6 y7 y8 y9 y10 y11 y12 t0 t1
  have sS : 1 ≤ S * S ∧ S * S ≤ 64 := by
    have q1 := Int.mul_le_mul hS.1 hS.1 (by decide) (by omega)
    have q2 := Int.mul_le_mul hS.2 hS.2 (by omega) (by decide)
    omega
  have nA : ((X1 - X0) * (Y1 - Y0) * (S * S)).natAbs ≤ 9007199254740992 := by
    rw [Int.natAbs_mul, Int.natAbs_mul]
    exact Nat.le_trans (Nat.mul_le_mul (Nat.mul_le_mul (show (X1 - X0).natAbs ≤ 2048 by omega) (show (Y1 - Y0).natAbs ≤ 2048 by omega)) (show (S * S).natAbs ≤ 64 by omega)) (by decide)
  obtain ⟨am, eam, ham⟩ := mulR hax (fb_rep (S * S) (by omega)) nA
  have oo := oR hay ham
  have eam' : FloatKind.f64.format.mul ax (floatOfInt FloatKind.f64 (S * S)) = some am := eam
  clear eam
  generalize rx1 K S DX DY X0 Y0 X1 Y1 + rx0 K S DX DY X0 Y0 X1 Y1 = cx at *
  generalize ry1 K S DX DY X0 Y0 X1 Y1 + ry0 K S DX DY X0 Y0 X1 Y1 = cy at *
  generalize (X1 - X0) * (Y1 - Y0) * (S * S) = nn at *
  clear hax hay ham nA
  have hc : compare nn nn = Ordering.eq := by simp
  rw [hc] at oo
  clear hc
  go_wp2_with (first | (go_at_call 9; refine Stop.out ?_) | (with_reducible refine stop_region ?_))
  refine ⟨?_⟩
  refine (awake_c _).mono ?_
  rintro e wz ⟨rfl, hb⟩
  go_wp2
  go_ret
  exact ⟨rfl, st10.hb.trans (hb.mono st10.hb.size)⟩
end Go.Proofs.Ytkaoldmdikljiaa
