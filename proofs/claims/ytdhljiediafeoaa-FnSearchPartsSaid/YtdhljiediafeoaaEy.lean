import Derived.Test.YtdhljiediafeoaaEx
set_option linter.unusedSimpArgs false
set_option linter.unusedVariables false
/-! Search by the quad tree; Search with any index. -/
namespace PF
open Go Go.RowKit JR
def qpre (N M : Nat) : List Nat := 2 :: (le4 M ++ [1, N])
theorem ixby_q (l : List (Int × Int)) (N : Nat) : ixby 2 l N = qpre N (8 + N) ++ (List.range N ++ [0]) := by
  have e : (ixrest 2 l N).length + 5 = 8 + N := by
    unfold ixrest qbytes
    rw [if_neg (by decide)]
    simp
    omega
  unfold ixby
  rw [e]
  unfold ixrest qbytes qpre
  rw [if_neg (by decide)]
  simp
theorem datE {u : World} {g x n : Nat} {P : List Nat} {N : Nat} {T : TypeId} (h : u.heap[g]? = some (.cells ((P ++ (List.range N ++ [x])).map byv).toArray T (0, 0))) (hP : P.length = n) : u.cell? ⟨g, n + N, none⟩ = some (byv x) := by
  refine (cellAt h _).trans ?_
  subst hP
  rw [List.getElem?_toArray, List.getElem?_map, List.getElem?_append_right (by omega), Nat.add_sub_cancel_left, List.getElem?_append_right (by simp)]
  simp
end PF
namespace Go.Proofs.Ytdhljiediafeoaa
open Go.RowKit PF JR
set_option maxRecDepth 100000 in
set_option maxHeartbeats 8000000 in
theorem qc_c (F : FuncId) (caps : Array Value) (closed : Bool) (l : List (Int × Int)) (T : TypeId) (lo hi b g m q0 q1 q2 q3 t0 t1 t2 t3 : Nat) (v' : Value) (hit : Nat → Bool) (Inv : Nat → World → Prop) (Stop : World → Prop)
    (H : SrchOk F caps 2 closed l T lo hi b (.iface 105 (.slice (some ⟨g, 0, none⟩) m m)) v' (.agg #[fl q0, fl q1, fl q2, fl q3]) hit Inv Stop) (w : World) (h0 : Inv 0 w) :
    Calls Try.prog 103 #[.slice (some ⟨g, 0, none⟩) m m, .int .i64 5, .pointer (some ⟨b, 0, none⟩), .agg #[fl t0, fl t1, fl t2, fl t3], .agg #[fl q0, fl q1, fl q2, fl q3], .func (.func F) #[] caps] w fun e w' => ∃ c : Bool, e = .returned (.bool c) ∧ (c = true → Inv (nSeg closed l) w') ∧ (c = false → Stop w') := by
  have hN12 := Nat.le_trans (nSeg_le closed l) H.len
  have hdat : ∀ k u, Inv k u → u.heap[g]? = some (.cells ((qpre (nSeg closed l) (8 + nSeg closed l) ++ (List.range (nSeg closed l) ++ [0])).map byv).toArray 5 (0, 0)) ∧ m = 8 + nSeg closed l := by
    intro k u hI
    obtain ⟨h1, h2⟩ := IxV.dat (by decide) (H.ser k u hI).1
    rw [ixby_q l _] at h1 h2
    refine ⟨h1, ?_⟩
    rw [h2, List.length_append, List.length_append, List.length_range]
    simp [qpre, le4]
    omega
  have hm : JR.StopN (m = 8 + nSeg closed l) := ⟨(hdat 0 w h0).2⟩
  generalize hN : nSeg closed l = N at *
  have hP38 : ∀ k u, Inv k u → u.cell? ⟨g, 5, none⟩ = some (.int .u8 (1 : Nat)) ∧ u.cell? ⟨g, 6, none⟩ = some (.int .u8 N) ∧ (∀ i, i < N → u.cell? ⟨g, 7 + i, none⟩ = some (.int .u8 i)) ∧ u.cell? ⟨g, 7 + N, none⟩ = some (.int .u8 (0 : Nat)) := by
    intro k u hI
    have hd := (hdat k u hI).1
    exact ⟨datL hd rfl, datL hd rfl, fun i hi => datR hd rfl hi, datE hd rfl⟩
  have st := ((Blk.nil w).push rfl #[fl t0, fl t1, fl t2, fl t3] 53).push (b := w.heap.size + 1) (by simp) #[fl q0, fl q1, fl q2, fl q3] 53
  have I4 := H.ext 0 _ _ h0 st.hb
  have R4 := st.known 0 _ rfl
  obtain ⟨p5, p6, -, -⟩ := hP38 0 _ I4
  have k5 : (5 : Int) < (m : Int) := by have := hm.out; omega
  have k6 : (6 : Int) ≤ (m : Int) := by omega
  have k6' : m ≠ 6 := by have := hm.out; omega
  have hrn0 := readNum_c g 6 (m - 6) (m - 6) N (by omega) _ (by have := hm.out; omega) p6
  clear st hdat h0
  generalize hw0 : ((w.alloc (.cells #[fl t0, fl t1, fl t2, fl t3] 53)).alloc (.cells #[fl q0, fl q1, fl q2, fl q3] 53)) = w0 at *
  generalize hrb : w.heap.size + 1 = rb at *
  go_enter Try.func103, Try.ntmps103
  go_wp2_with (go_at_call 105; refine JR.StopN.out ?_)
  refine ⟨?_⟩
  refine hrn0.mono ?_
  rintro e w3 ⟨rfl, rfl⟩
  clear hrn0 p5 p6 hw0
  go_wp2
  go_loopw [1, 15] (fun ad i wr => ∃ k : Nat, k ≤ N ∧ ad = .int .i64 (7 + k : Nat) ∧ i = .int .i64 k ∧ Inv k wr ∧ wr.heap[rb]? = some (.cells #[fl q0, fl q1, fl q2, fl q3] 53 (0, 0))) (fun _ i _ => N - (intOf i).toNat)
  case atStart => exact ⟨0, Nat.zero_le _, rfl, rfl, I4, R4⟩
  case round =>
    clear I4 R4
    obtain ⟨k, hk, rfl, rfl, I5, R5⟩ := hrel
    rcases Nat.lt_or_ge k N with hlt | hge
    · have hlt' : (k : Int) < (N : Int) := by omega
      have hm' := hm.out
      have a1 : ((7 + k : Nat) : Int) ≤ (m : Int) := by omega
      have a2 : m ≠ 7 + k := by omega
      have p40 := (hP38 k _ I5).2.2.1 k hlt
      have hrn := readNum_c g (7 + k) (m - (7 + k)) (m - (7 + k)) k (by omega) wr (by omega) p40
      clear hm'
      generalize hak : 7 + k = ak at *
      replace hak : JR.StopN (7 + k = ak) := ⟨hak⟩
      go_wp2_with (go_at_call 105; refine JR.StopN.out ?_)
      refine ⟨?_⟩
      refine hrn.mono ?_
      rintro e w6 ⟨rfl, rfl⟩
      have hsg := sgat_x (H.skp I5) (by have := H.len; omega) k (by omega)
      have hak2 : ((ak : Int) + 1) = ((7 + (k + 1) : Nat) : Int) := by have := hak.out; omega
      have akb : ak ≤ 60 := by have := hak.out; omega
      generalize hak3 : 7 + (k + 1) = ak1 at *
      clear hrn p40
      go_wp2_with (go_at_call 42; refine JR.StopN.out ?_)
      refine ⟨?_⟩
      refine hsg.mono ?_
      rintro e w7 ⟨rfl, hb7⟩
      have I7 := H.ext k _ _ I5 hb7
      have R7 := (hb7.block _ (lt_of_some R5)).trans R5
      clear hsg I5 R5 hb7
      unfold sgv
      have hal := (Below.refl w7.heap.size w7).alloc (Nat.le_refl _) (.cells #[fl (fb (at' l k).1), fl (fb (at' l k).2), fl (fb (nxp l k).1), fl (fb (nxp l k).2)] 56)
      have V8 := heap_alloc_new w7 (.cells #[fl (fb (at' l k).1), fl (fb (at' l k).2), fl (fb (nxp l k).1), fl (fb (nxp l k).2)] 56)
      have I8 := H.ext k _ _ I7 hal
      have R8 := (hal.block _ (lt_of_some R7)).trans R7
      clear I7 R7 hal
      go_wp2_with (go_at_call 43; refine JR.StopN.out ?_)
      refine ⟨?_⟩
      refine (sgr_x l H.bnd k _).mono ?_
      rintro e w9 ⟨rfl, hb9⟩
      have hal := (Below.refl w9.heap.size w9).alloc (Nat.le_refl _) (.cells #[fl (fb (sgx l k).1), fl (fb (sgx l k).2.1), fl (fb (sgx l k).2.2.1), fl (fb (sgx l k).2.2.2)] 53)
      have hh := hb9.trans (hal.mono hb9.size)
      have I10 := H.ext k _ _ I8 hh
      have R10 := (hh.block _ (lt_of_some R8)).trans R8
      have V10 := (hh.block _ (lt_of_some V8)).trans V8
      have U10 := heap_alloc_new w9 (.cells #[fl (fb (sgx l k).1), fl (fb (sgx l k).2.1), fl (fb (sgx l k).2.2.1), fl (fb (sgx l k).2.2.2)] 53)
      clear hb9 hal hh I8 R8 V8
      have Y0 := cellAt R10 0
      have Y1 := cellAt R10 1
      have Y2 := cellAt R10 2
      have Y3 := cellAt R10 3
      simp only [List.getElem?_toArray, List.getElem?_cons_zero, List.getElem?_cons_succ] at Y0 Y1 Y2 Y3
      generalize hsx0 : fb (sgx l k).1 = s0 at *
      generalize hsx1 : fb (sgx l k).2.1 = s1 at *
      generalize hsx2 : fb (sgx l k).2.2.1 = s2 at *
      generalize hsx3 : fb (sgx l k).2.2.2 = s3 at *
      have hmt := H.meet k (w9.alloc (.cells #[fl s0, fl s1, fl s2, fl s3] 53)) (by omega)
      rw [hsx0, hsx1, hsx2, hsx3] at hmt
      clear hsx0 hsx1 hsx2 hsx3
      go_wp2_with (go_at_call 19; refine JR.StopN.out ?_)
      refine ⟨?_⟩
      refine hmt.mono ?_
      rintro e w11 ⟨rfl, hb11⟩
      have I11 := H.ext k _ _ I10 hb11
      have R11 := (hb11.block _ (lt_of_some R10)).trans R10
      have V11 := (hb11.block _ (lt_of_some V10)).trans V10
      clear hmt hb11 I10 R10 V10 U10 Y0 Y1 Y2 Y3
      have W0 := cellAt V11 0
      have W1 := cellAt V11 1
      have W2 := cellAt V11 2
      have W3 := cellAt V11 3
      simp only [List.getElem?_toArray, List.getElem?_cons_zero, List.getElem?_cons_succ] at W0 W1 W2 W3
      generalize hh : hit k = h at *
      cases h with
      | false =>
        have I7 := H.skip k _ (by omega) hh I11
        clear hh
        go_wp2
        go_roundw
        case rel => exact ⟨k + 1, by omega, by rw [hak3, ← hak2], by go_num, I7, R11⟩
        case measure => simp [intOf]; omega
      | true =>
        have hst := H.step k _ (by omega) hh I11
        clear hh
        unfold sgv at hst
        go_wp2
        rw [H.ent, Oper.upon_enter]
        refine hst.mono ?_
        rintro e w12 ⟨c, rfl, hi, hs, hk7⟩
        have R12 := hk7.2 _ _ _ (.inl rfl) R11
        clear hst hk7 I11 R11 V11 W0 W1 W2 W3
        cases c with
        | true =>
          have I7 := hi rfl
          clear hi hs
          go_wp2
          go_roundw
          case rel => exact ⟨k + 1, by omega, by rw [hak3, ← hak2], by go_num, I7, R12⟩
          case measure => simp [intOf]; omega
        | false =>
          have S7 := hs rfl
          clear hi hs
          go_wp2
          go_ret
          exact ⟨false, rfl, fun h => (nomatch h), fun _ => S7⟩
    · have hkk : k = N := by omega
      subst hkk
      have p7 := (hP38 _ _ I5).2.2.2
      have hm' := hm.out
      have a1 : ((7 + k : Nat) : Int) < (m : Int) := by omega
      have a3 : ((7 + k : Nat) : Int) < 100 := by omega
      clear hP38 hm'
      generalize 7 + k = ak at *
      go_wp2
      go_ret
      exact ⟨true, rfl, fun _ => I5, fun h => (nomatch h)⟩

/-- Search, with any index -/
theorem getN_c (g n c x : Nat) (hx : x < 4294967296) (w : World) (hn : 4 ≤ n)
    (c0 : w.cell? ⟨g, 1, none⟩ = some (byv (x % 256))) (c1 : w.cell? ⟨g, 2, none⟩ = some (byv (x / 256 % 256))) (c2 : w.cell? ⟨g, 3, none⟩ = some (byv (x / 65536 % 256))) (c3 : w.cell? ⟨g, 4, none⟩ = some (byv (x / 16777216 % 256))) :
    Calls Try.prog 101 #[.agg #[], .slice (some ⟨g, 1, none⟩) n c] w fun e w' => e = .returned (.int .u32 x) ∧ Below w.heap.size w w' := by
  have h := getU32_c g 1 n c _ _ _ _ (by omega) (by omega) (by omega) (by omega) w hn c0 c1 c2 c3
  rw [le4_sum x hx] at h
  exact h
theorem ixby_hd (K : Nat) (l : List (Int × Int)) (n : Nat) : ∃ m R, m = (ixby K l n).length ∧ m = R.length + 5 ∧ ixby K l n = (K :: le4 m) ++ R := by
  refine ⟨_, ixrest K l n, rfl, ?_, ?_⟩
  · unfold ixby; simp [le4]
  · have e : (ixby K l n).length = (ixrest K l n).length + 5 := by unfold ixby; simp [le4]
    rw [e]
    rfl

set_option maxRecDepth 100000 in
set_option maxHeartbeats 8000000 in
theorem searchI_c (F : FuncId) (caps : Array Value) (K : Nat) (hK : K = 1 ∨ K = 2) (closed : Bool) (l : List (Int × Int)) (T : TypeId) (lo hi b q0 q1 q2 q3 : Nat) (ix v' : Value) (hit : Nat → Bool) (Inv : Nat → World → Prop) (Stop : World → Prop) (rhit : Bool)
    (H : SrchOk F caps K closed l T lo hi b ix v' (.agg #[fl q0, fl q1, fl q2, fl q3]) hit Inv Stop)
    (hroot : K = 1 → nSeg closed l ≠ 0 → ∀ u, Calls Try.prog 19 #[.agg #[fl q0, fl q1, fl q2, fl q3], .agg #[fl (fb (rbx l (nSeg closed l)).1), fl (fb (rbx l (nSeg closed l)).2.1), fl (fb (rbx l (nSeg closed l)).2.2.1), fl (fb (rbx l (nSeg closed l)).2.2.2)]] u fun e u' => e = .returned (.bool rhit) ∧ Below u.heap.size u u')
    (hpr : rhit = false → ∀ k, k < nSeg closed l → hit k = false) (w : World) (h0 : Inv 0 w) :
    Calls Try.prog 99 #[.pointer (some ⟨b, 0, none⟩), .agg #[fl q0, fl q1, fl q2, fl q3], .func (.func F) #[] caps] w fun e w' => e = .returned (.tuple #[]) ∧ (Inv (nSeg closed l) w' ∨ Stop w') := by
  have hK0 : K ≠ 0 := by omega
  have hnb := isBytes
  obtain ⟨hix, hrow, -⟩ := H.ser 0 w h0
  obtain ⟨g, m, rfl⟩ : ∃ g m, ix = .iface 105 (.slice (some ⟨g, 0, none⟩) m m) := by
    rcases hix with ⟨h, -⟩ | ⟨-, g, h, -⟩
    · exact absurd h hK0
    · exact ⟨g, _, h⟩
  clear hix
  have hb1 : Below w.heap.size w (w.alloc (.cells #[fl q0, fl q1, fl q2, fl q3] 53)) := (Below.refl _ w).alloc (Nat.le_refl _) _
  have hrow1 := (hb1.block b (lt_of_some hrow)).trans hrow
  have x4 := cellAt hrow1 4
  have I1 := H.ext 0 _ _ h0 hb1
  have R1 := heap_alloc_new w (.cells #[fl q0, fl q1, fl q2, fl q3] 53)
  obtain ⟨d1, d2⟩ := IxV.dat hK0 (H.ser 0 _ I1).1
  obtain ⟨m', R, hm', hmR, hby⟩ := ixby_hd K l (nSeg closed l)
  rw [hby] at d1
  have hm : m = m' := by rw [d2, hm']
  subst hm
  have hm100 : m ≤ 1000 := by
    rw [d2]
    have := Nat.le_trans (nSeg_le closed l) H.len
    rcases hK with rfl | rfl
    · by_cases h : nSeg closed l = 0
      · rw [h, ixby_r0]; simp
      · rw [ixby_r _ _ h]; simp [rpre, le4, le8]; omega
    · rw [ixby_q]; simp [qpre, le4]; omega
  clear hm' hby d2
  have hm5 : 5 ≤ m := by omega
  clear hmR
  simp only [serC, List.getElem?_toArray, List.getElem?_cons_zero, List.getElem?_cons_succ] at x4
  generalize hw1 : w.alloc (.cells #[fl q0, fl q1, fl q2, fl q3] 53) = w1 at *
  have k1 : (1 : Int) ≤ (m : Int) := by omega
  have k2 : m ≠ 1 := by omega
  have k3 : (0 : Int) < (m : Int) := by omega
  have k4 : 0 < m := by omega
  have hdr : Below w1.heap.size w1 w1.drew := (Below.refl _ w1).drew
  have I2 := H.ext 0 _ _ I1 hdr
  have R2 := (hdr.block _ (lt_of_some R1)).trans R1
  have D2 := (hdr.block _ (lt_of_some d1)).trans d1
  have B2 := (hdr.block _ (lt_of_some hrow1)).trans hrow1
  have hgn := getN_c g (m - 1) (m - 1) m (by omega) w1.drew (by omega) (datL D2 rfl) (datL D2 rfl) (datL D2 rfl) (datL D2 rfl)
  clear I1 R1 d1 hrow hb1 h0
  go_enter Try.func99, Try.ntmps99
  go_upto_region 13 with (fail)
  go_still_tail 3, (by kernel_rfl)
  change wpList _ _ _ _ _ w1.drew
  clear hdr x4 hrow1 hnb hw1
  generalize w1.drew = w2 at *
  generalize hrb : w.heap.size = rb at *
  go_wp2_with (go_at_call 101; refine JR.StopN.out ?_)
  refine ⟨?_⟩
  refine hgn.mono ?_
  rintro e w3 ⟨rfl, hb3⟩
  have I3 := H.ext 0 _ _ I2 hb3
  have R3 := (hb3.block _ (lt_of_some R2)).trans R2
  have D3 := (hb3.block _ (lt_of_some D2)).trans D2
  have B3 := (hb3.block _ (lt_of_some B2)).trans B2
  have p0 : w3.cell? ⟨g, 0, none⟩ = some (.int .u8 K) := datL D3 rfl
  have Y0 := cellAt R3 0
  have Y1 := cellAt R3 1
  have Y2 := cellAt R3 2
  have Y3 := cellAt R3 3
  have Z5 := cellAt B3 5
  have Z6 := cellAt B3 6
  have Z7 := cellAt B3 7
  have Z8 := cellAt B3 8
  simp only [serC, List.getElem?_toArray, List.getElem?_cons_zero, List.getElem?_cons_succ] at Y0 Y1 Y2 Y3 Z5 Z6 Z7 Z8
  clear hgn I2 R2 D2 B2 hb3
  rcases hK with rfl | rfl
  · have hrc := rc_c F caps closed l T lo hi b g m q0 q1 q2 q3 v' hit Inv Stop rhit H (hroot rfl) hpr w3 I3
    clear hroot hpr I3 R3 D3 B3 Z5 Z6 Z7 Z8
    go_wp2_with (go_at_call 102; refine JR.StopN.out ?_)
    refine ⟨?_⟩
    refine hrc.mono ?_
    rintro e w4 ⟨c, rfl, h1, h2⟩
    clear hrc p0 Y0 Y1 Y2 Y3
    go_wp2
    go_end0
    refine ⟨rfl, ?_⟩
    cases c with
    | true => exact .inl (h1 rfl)
    | false => exact .inr (h2 rfl)
  · have hqc := fun u h => qc_c F caps closed l T lo hi b g m q0 q1 q2 q3 (fb (ppB closed l).1) (fb (ppB closed l).2.1) (fb (ppB closed l).2.2.1) (fb (ppB closed l).2.2.2) v' hit Inv Stop H u h
    clear hroot hpr
    generalize fb (ppB closed l).1 = t0 at *
    generalize fb (ppB closed l).2.1 = t1 at *
    generalize fb (ppB closed l).2.2.1 = t2 at *
    generalize fb (ppB closed l).2.2.2 = t3 at *
    have hq3 : Below w3.heap.size w3 w3.drew := (Below.refl _ w3).drew
    have hqc4 := hqc _ (H.ext 0 _ _ I3 hq3)
    go_upto_region 19 with (fail)
    go_still_tail 8, (by kernel_rfl)
    change wpList _ _ _ _ _ w3.drew
    replace Y0 := cellAt ((hq3.block _ (lt_of_some R3)).trans R3) 0
    replace Y1 := cellAt ((hq3.block _ (lt_of_some R3)).trans R3) 1
    replace Y2 := cellAt ((hq3.block _ (lt_of_some R3)).trans R3) 2
    replace Y3 := cellAt ((hq3.block _ (lt_of_some R3)).trans R3) 3
    replace Z5 := (hq3.cell (World.block_lt_of_cell? w3 _ Z5)).trans Z5
    replace Z6 := (hq3.cell (World.block_lt_of_cell? w3 _ Z6)).trans Z6
    replace Z7 := (hq3.cell (World.block_lt_of_cell? w3 _ Z7)).trans Z7
    replace Z8 := (hq3.cell (World.block_lt_of_cell? w3 _ Z8)).trans Z8
    simp only [List.getElem?_toArray, List.getElem?_cons_zero, List.getElem?_cons_succ] at Y0 Y1 Y2 Y3
    clear I3 R3 D3 B3 p0 hq3
    generalize w3.drew = w4 at *
    go_wp2_with (go_at_call 103; refine JR.StopN.out ?_)
    refine ⟨?_⟩
    refine hqc4.mono ?_
    rintro e w5 ⟨c, rfl, h1, h2⟩
    clear hqc hqc4 Y0 Y1 Y2 Y3 Z5 Z6 Z7 Z8
    go_wp2
    go_end0
    refine ⟨rfl, ?_⟩
    cases c with
    | true => exact .inl (h1 rfl)
    | false => exact .inr (h2 rfl)
/-- Search, with any index -/
theorem search_c (F : FuncId) (caps : Array Value) (K : Nat) (hK : K ≤ 2) (closed : Bool) (l : List (Int × Int)) (T : TypeId) (lo hi b q0 q1 q2 q3 : Nat) (ix v' : Value) (hit : Nat → Bool) (Inv : Nat → World → Prop) (Stop : World → Prop) (rhit : Bool)
    (H : SrchOk F caps K closed l T lo hi b ix v' (.agg #[fl q0, fl q1, fl q2, fl q3]) hit Inv Stop)
    (hroot : K = 1 → nSeg closed l ≠ 0 → ∀ u, Calls Try.prog 19 #[.agg #[fl q0, fl q1, fl q2, fl q3], .agg #[fl (fb (rbx l (nSeg closed l)).1), fl (fb (rbx l (nSeg closed l)).2.1), fl (fb (rbx l (nSeg closed l)).2.2.1), fl (fb (rbx l (nSeg closed l)).2.2.2)]] u fun e u' => e = .returned (.bool rhit) ∧ Below u.heap.size u u')
    (hpr : rhit = false → ∀ k, k < nSeg closed l → hit k = false) (w : World) (h0 : Inv 0 w) :
    Calls Try.prog 99 #[.pointer (some ⟨b, 0, none⟩), .agg #[fl q0, fl q1, fl q2, fl q3], .func (.func F) #[] caps] w fun e w' => e = .returned (.tuple #[]) ∧ (Inv (nSeg closed l) w' ∨ Stop w') := by
  rcases Nat.eq_zero_or_pos K with rfl | h
  · exact search0_c F caps closed l T lo hi b q0 q1 q2 q3 ix v' hit Inv Stop H w h0
  · exact searchI_c F caps K (by omega) closed l T lo hi b q0 q1 q2 q3 ix v' hit Inv Stop rhit H hroot hpr w h0
end Go.Proofs.Ytdhljiediafeoaa
