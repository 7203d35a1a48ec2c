import Derived.Test.YtdhljiediafeoaaEi
import Derived.Test.YtdhljiediafeoaaMs
set_option linter.unusedSimpArgs false
set_option linter.unusedVariables false
/-! makeSeries, with an index, exactly. -/
namespace PF
/-- is a ring too short -/
def tooS (closed : Bool) (l : List (Int × Int)) : Bool := closed && decide (l.length < 3)
def ppB (closed : Bool) (l : List (Int × Int)) : Int × Int × Int × Int := if tooS closed l then (0, 0, 0, 0) else box l
def ppV (closed : Bool) (l : List (Int × Int)) : Bool := if tooS closed l then false else !(cvs l l.length).1
def ppW (closed : Bool) (l : List (Int × Int)) : Bool := if tooS closed l then false else decide (0 < cws l l.length)
end PF
namespace Go.Proofs.Ytdhljiediafeoaa
open Go.RowKit PF JR
theorem fb_zero : fb 0 = 0 := by decide +kernel
set_option maxRecDepth 100000 in
set_option maxHeartbeats 2000000 in
theorem pp_c (closed : Bool) (l : List (Int × Int)) (hl : l.length ≤ 1000) (hl2 : 2 ≤ l.length) (hbd : ∀ p ∈ l, Bnd p) (v : Value) (lo hi : Nat) (w : World) (hv : SlQ lo hi w v l) :
    Calls Try.prog 39 #[v, .bool closed] w fun e w' => e = .returned (.tuple #[.bool (ppV closed l), .agg #[fl (fb (ppB closed l).1), fl (fb (ppB closed l).2.1), fl (fb (ppB closed l).2.2.1), fl (fb (ppB closed l).2.2.2)], .bool (ppW closed l)]) ∧ Below w.heap.size w w' := by
  cases ht : tooS closed l with
  | false =>
    unfold ppV ppB ppW
    simp only [ht, Bool.false_eq_true, if_false]
    refine processPoints_c closed l (at' l 0) (at_get (by omega)) hl hl2 (fun hc => ?_) hbd v lo hi w hv
    subst hc
    simpa [tooS] using ht
  | true =>
    unfold ppV ppB ppW
    simp only [ht, if_true, fb_zero]
    obtain ⟨rfl, h2⟩ : closed = true ∧ l.length < 3 := by simpa [tooS] using ht
    obtain ⟨A, c, rfl⟩ := hv.len
    have h3 : (l.length : Int) < 3 := by omega
    clear ht hv hbd
    generalize l.length = n at *
    have hn := heap_alloc_new w (.cells #[fl 0, fl 0, fl 0, fl 0] 53)
    go_enter Try.func39, Try.ntmps39
    go_wp2
    exact bodyPost_ret (v := .tuple #[.bool false, .agg #[fl 0, fl 0, fl 0, fl 0], .bool false]) (by simp [results, Try.results39, go_sem]) rfl ⟨rfl, by repeat first | exact Below.refl _ _ | refine Below.alloc ?_ (by simp <;> omega) _ | refine Below.setCell ?_ (by simp <;> omega) _⟩
theorem bIndex_c (K : Nat) (hK2 : K ≤ 2) (sb lo hi : Nat) (closed : Bool) (l : List (Int × Int)) (ss : Array Value) (w : World) (hS : SerB w sb closed l lo hi ss) (hhi : hi ≤ w.heap.size)
    (hK : ss[3]? = some (.int .u8 K)) (h4 : ss[4]? = some .nilIface) (r0 r1 r2 r3 : Nat) (h5 : ss[5]? = some (fl r0)) (h6 : ss[6]? = some (fl r1)) (h7 : ss[7]? = some (fl r2)) (h8 : ss[8]? = some (fl r3)) (hl : l.length ≤ 12) (h2l : 2 ≤ l.length) (hbd : ∀ p ∈ l, p.1.natAbs ≤ 1000000 ∧ p.2.natAbs ≤ 1000000) :
    Calls Try.prog 40 #[.pointer (some ⟨sb, 0, none⟩)] w (BiP K l (nSeg closed l) sb ss w) := by
  have hk : K = 0 ∨ K = 1 ∨ K = 2 := by omega
  rcases hk with rfl | rfl | rfl
  · exact bIndex0_c sb lo hi closed l ss w hS hK h4
  · exact bIndex1_c sb lo hi closed l ss w hS hhi hK h4 hl h2l hbd
  · exact bIndex2_c sb lo hi closed l ss w hS hhi hK h4 r0 r1 r2 r3 h5 h6 h7 h8 hl h2l hbd
/-- the cells of a series of these points, with an index of kind K -/
def serC (K : Nat) (closed : Bool) (l : List (Int × Int)) (ix v : Value) : Array Value :=
  #[.bool closed, .bool (ppW closed l), .bool (ppV closed l), .int .u8 K, ix, fl (fb (ppB closed l).1), fl (fb (ppB closed l).2.1), fl (fb (ppB closed l).2.2.1), fl (fb (ppB closed l).2.2.2), v]
/-- what makeSeries gives, with an index of kind K -/
def MkP (K : Nat) (closed : Bool) (l : List (Int × Int)) (w : World) (e : Ending) (w' : World) : Prop :=
  ∃ (ix v' : Value), IxV K l (nSeg closed l) w.heap.size w'.heap.size w' ix ∧ e = .returned (.agg (serC K closed l ix v')) ∧ SlQ w.heap.size w'.heap.size w' v' l ∧ Below w.heap.size w w'

set_option maxRecDepth 100000 in
set_option maxHeartbeats 4000000 in
theorem makeSeriesK_c (K : Nat) (hK2 : K ≤ 2) (closed : Bool) (l : List (Int × Int)) (hl : l.length ≤ 12) (h2l : 2 ≤ l.length) (hbd : ∀ p ∈ l, Bnd p)
    (ob : Nat) (v : Value) (lo hb0 : Nat) (w : World) (hhb : hb0 ≤ w.heap.size) (hob : w.heap[ob]? = some (.cells #[.int .u8 K, .int .i64 2] 84 (0, 0))) (hv : SlQ lo hb0 w v l) :
    Calls Try.prog 37 #[v, .bool true, .bool closed, .pointer (some ⟨ob, 0, none⟩)] w (MkP K closed l w) := by
  have hne : 0 < l.length := by omega
  unfold MkP serC
  obtain ⟨i0, hi, hz0, hz1, hz2⟩ := info_parts infoF
  have hmk : ∀ u : World, (Instr.makeSlice 73 (.int .i64 l.length) (.int .i64 l.length)).run Try.prog u = .ok (.slice (some ⟨u.heap.size, 0, none⟩) l.length l.length) (u.alloc (.cells (madeCells #[fl 0, fl 0] (l.length * 2)) 51)) := by
    intro u
    have := run_make (P := Try.prog) u 73 51 i0 (.agg #[fl 0, fl 0]) Try.underlying73 hi hz0 .i64 .i64 l.length l.length (by omega) (by omega) (by rw [hz2]; omega) (by omega)
    rw [hz1] at this
    have e : (Value.agg #[fl 0, fl 0]).cells = #[fl 0, fl 0] := rfl
    rw [e] at this
    simpa using this
  have hv0 := hv
  obtain ⟨A, c, rfl, hk⟩ := hv
  obtain ⟨p0, hp0⟩ : ∃ p, l[0]? = some p := ⟨l[0], by simp [hne]⟩
  obtain ⟨b, rfl, -, -, g1, g2⟩ := hk 0 p0 hp0
  go_enter Try.func37, Try.ntmps37
  go_wp2
  have st0 := (((Blk.nil w).push rfl #[.bool false, .bool false, .bool false, .int .u8 0, .nilIface, fl 0, fl 0, fl 0, fl 0, .slice none 0 0] 86).push (b := w.heap.size + 1) (by simp) #[.bool closed, .bool false, .bool false, .int .u8 0, .nilIface, fl 0, fl 0, fl 0, fl 0, .slice (some ⟨w.heap.size + 1 + 1, 0, none⟩) l.length l.length] 86).push (b := w.heap.size + 1 + 1) (by simp) (madeCells #[fl 0, fl 0] (l.length * 2)) 51
  have hsrc0 := (SlQ.src hv0)
  have hsz := size_madeCells #[fl 0, fl 0] (l.length * 2)
  rw [run_copy_wide _ _ _ _ 51 _ _ _ _ _ _ 2 _ _ (cellsF l) Try.underlying73 (by rw [hi]; simp [hz1]) (st0.known 0 _ rfl) (by simp [cellsF_len, Nat.min_self]) (fun j v hj => (st0.hb.cell (World.block_lt_of_cell? w _ (hsrc0 j v hj))).trans (hsrc0 j v hj)) (by simp [cellsF_len, hsz]) (cellsF_one l)]
  have hrow : (cellsF l ++ (madeCells #[fl 0, fl 0] (l.length * 2)).toList.drop (cellsF l).length).toArray = (cellsF l).toArray := by
    rw [List.drop_eq_nil_of_le (by simp [cellsF_len, hsz]), List.append_nil]
  rw [hrow]
  have st1 := st0.row 0 (cs' := (cellsF l).toArray) rfl ⟨.inl rfl, .inr (by show _ ≠ _; omega), .inr (by show _ ≠ _; omega), trivial⟩ (by omega)
  have hoblt := lt_of_some hob
  have ho0 := st1.hb.block ob hoblt
  have ho1 := ho0.trans hob
  clear st0 hsrc0 hsz hrow ho0 hmk
  simp only [Result.andThen_ok]
  generalize World.setRow _ (w.heap.size + 1 + 1) (cellsF l).toArray = w4 at *
  have x0 := st1.cell 1 rfl 0
  have x1 := st1.cell 1 rfl 1
  have x2 := st1.cell 1 rfl 2
  have x3 := st1.cell 1 rfl 3
  have x4 := st1.cell 1 rfl 4
  have x5 := st1.cell 1 rfl 5
  have x6 := st1.cell 1 rfl 6
  have x7 := st1.cell 1 rfl 7
  have x8 := st1.cell 1 rfl 8
  have x9 := st1.cell 1 rfl 9
  have xf := fun o => st1.frozen 1 rfl o
  simp only [List.set_cons_zero, List.getElem?_toArray, List.getElem?_cons_zero, List.getElem?_cons_succ] at x0 x1 x2 x3 x4 x5 x6 x7 x8 x9
  have sq := st1.slq 0 rfl l.length
  simp only [Oper.upon]
  go_wp2_with (go_at_call 39; refine JR.StopM.out ?_)
  refine ⟨?_⟩
  have hv4 := hv0.keep (fun k _ h2 => st1.hb.block k (by omega))
  refine (pp_c closed l (by omega) h2l hbd _ lo hb0 _ hv4).mono ?_
  rintro e w5 ⟨rfl, hb⟩
  generalize e1 : ppV closed l = cv at *
  generalize e2 : ppW closed l = cw at *
  generalize e3 : fb (ppB closed l).1 = r0 at *
  generalize e4 : fb (ppB closed l).2.1 = r1 at *
  generalize e5 : fb (ppB closed l).2.2.1 = r2 at *
  generalize e6 : fb (ppB closed l).2.2.2 = r3 at *
  have st2 := st1.ext hb
  have ho2 := (hb.block ob (lt_of_some ho1)).trans ho1
  clear x0 x1 x2 x3 x4 x5 x6 x7 x8 x9 xf sq hb st1 hv4 ho1
  have oc0 := cellAt ho2 0
  have oc1 := cellAt ho2 1
  have x0 := st2.cell 1 rfl 0
  have x1 := st2.cell 1 rfl 1
  have x2 := st2.cell 1 rfl 2
  have x3 := st2.cell 1 rfl 3
  have x4 := st2.cell 1 rfl 4
  have x5 := st2.cell 1 rfl 5
  have x6 := st2.cell 1 rfl 6
  have x7 := st2.cell 1 rfl 7
  have x8 := st2.cell 1 rfl 8
  have x9 := st2.cell 1 rfl 9
  have xf := fun o => st2.frozen 1 rfl o
  simp only [List.set_cons_zero, List.getElem?_toArray, List.getElem?_cons_zero, List.getElem?_cons_succ] at oc0 oc1 x0 x1 x2 x3 x4 x5 x6 x7 x8 x9
  have hge : (2 : Int) ≤ (l.length : Int) := by omega
  go_wp2_with (go_at_call 40; refine JR.StopM.out ?_)
  refine ⟨?_⟩
  have p0 := st2.put (o := 2) (v := .bool cv) 1 rfl ⟨.inr (by show _ ≠ _; omega), .inl rfl, .inr (by show _ ≠ _; omega), trivial⟩ (by omega)
  have p1 := p0.put (o := 5) (v := fl r0) 1 rfl ⟨.inr (by show _ ≠ _; omega), .inl rfl, .inr (by show _ ≠ _; omega), trivial⟩ (by omega)
  have p2 := p1.put (o := 6) (v := fl r1) 1 rfl ⟨.inr (by show _ ≠ _; omega), .inl rfl, .inr (by show _ ≠ _; omega), trivial⟩ (by omega)
  have p3 := p2.put (o := 7) (v := fl r2) 1 rfl ⟨.inr (by show _ ≠ _; omega), .inl rfl, .inr (by show _ ≠ _; omega), trivial⟩ (by omega)
  have p4 := p3.put (o := 8) (v := fl r3) 1 rfl ⟨.inr (by show _ ≠ _; omega), .inl rfl, .inr (by show _ ≠ _; omega), trivial⟩ (by omega)
  have p5 := p4.put (o := 1) (v := .bool cw) 1 rfl ⟨.inr (by show _ ≠ _; omega), .inl rfl, .inr (by show _ ≠ _; omega), trivial⟩ (by omega)
  have p6 := p5.put (o := 3) (v := .int .u8 K) 1 rfl ⟨.inr (by show _ ≠ _; omega), .inl rfl, .inr (by show _ ≠ _; omega), trivial⟩ (by omega)
  clear p0 p1 p2 p3 p4 p5 st2 x0 x1 x2 x3 x4 x5 x6 x7 x8 x9 xf oc0 oc1 ho2
  generalize ((((((w5.setCell _ _).setCell _ _).setCell _ _).setCell _ _).setCell _ _).setCell _ _).setCell _ _ = w6 at *
  have k0 := p6.known 0 _ rfl
  have k1 := p6.known 1 _ rfl
  have k2 := p6.known 2 _ rfl
  have sq := p6.slq 0 rfl l.length
  have hb6 := p6.hb
  clear p6
  simp only [List.setIfInBounds_toArray, List.set_cons_zero, List.set_cons_succ] at k1
  have hlt0 := lt_of_some k0
  have hS : SerB w6 (w.heap.size + 1) closed l (w.heap.size + 1 + 1) (w.heap.size + 1 + 1 + 1) #[.bool closed, .bool cw, .bool cv, .int .u8 K, .nilIface, fl r0, fl r1, fl r2, fl r3, .slice (some ⟨w.heap.size + 1 + 1, 0, none⟩) l.length l.length] := ⟨k1, rfl, rfl, _, rfl, sq⟩
  have hbi := bIndex_c K hK2 _ _ _ _ _ _ _ hS (by omega) rfl rfl r0 r1 r2 r3 rfl rfl rfl rfl hl h2l hbd
  clear sq hS
  refine hbi.mono ?_
  rintro e w7 ⟨rfl, x, hx, hr⟩
  have hs6 := hb6.size
  have hlt2 := lt_of_some k2
  have hx7 := hx
  have n1 := hr.row
  have hkp := hr.kp
  simp only [List.setIfInBounds_toArray, List.set_cons_zero, List.set_cons_succ] at n1
  have n0 := (hkp.block _ hlt0 (by simp)).trans k0
  have n2 := (hkp.block _ (lt_of_some k2) (by simp)).trans k2
  have hb7 : Below w.heap.size w w7 := Keep.belowX hkp hb6 hb6.size (by simp)
  have st7 := ((((⟨fun i x h => by simp at h, hb7⟩ : Blk w w7 []).add n2).add n1).add n0)
  clear hbi hr k0 k1 k2 n0 n1 n2 hkp hb6 hb7
  have x0 := st7.cell 1 rfl 0
  have x1 := st7.cell 1 rfl 1
  have x2 := st7.cell 1 rfl 2
  have x3 := st7.cell 1 rfl 3
  have x4 := st7.cell 1 rfl 4
  have x5 := st7.cell 1 rfl 5
  have x6 := st7.cell 1 rfl 6
  have x7 := st7.cell 1 rfl 7
  have x8 := st7.cell 1 rfl 8
  have x9 := st7.cell 1 rfl 9
  have d0 := st7.cell 2 rfl 0
  have d1 := st7.cell 2 rfl 1
  have d2 := st7.cell 2 rfl 2
  have d3 := st7.cell 2 rfl 3
  have d4 := st7.cell 2 rfl 4
  have d5 := st7.cell 2 rfl 5
  have d6 := st7.cell 2 rfl 6
  have d7 := st7.cell 2 rfl 7
  have d8 := st7.cell 2 rfl 8
  have d9 := st7.cell 2 rfl 9
  have xf := fun o => st7.frozen 1 rfl o
  have df := fun o => st7.frozen 2 rfl o
  simp only [List.set_cons_zero, List.getElem?_toArray, List.getElem?_cons_zero, List.getElem?_cons_succ] at x0 x1 x2 x3 x4 x5 x6 x7 x8 x9 d0 d1 d2 d3 d4 d5 d6 d7 d8 d9
  have hfin : ∀ u : World, (∀ k, w.heap.size + 1 ≤ k → u.heap[k]? = w7.heap[k]?) → w7.heap.size ≤ u.heap.size → IxV K l (nSeg closed l) w.heap.size u.heap.size u x := fun u h1 h2 => (hx7.keep fun k g1 _ _ => h1 k (by omega)).wide (by omega) h2
  clear hx7
  rcases hx with ⟨-, rfl⟩ | ⟨-, g, rfl, -⟩
  · go_wp2
    refine bodyPost_ret (v := .agg #[.bool closed, .bool cw, .bool cv, .int .u8 K, .nilIface, fl r0, fl r1, fl r2, fl r3, .slice (some ⟨w.heap.size + 1 + 1, 0, none⟩) l.length l.length]) (by simp [results, Try.results37, go_sem, d0, d1, d2, d3, d4, d5, d6, d7, d8, d9]) rfl ⟨_, _, ?_, by subst e1 e2 e3 e4 e5 e6; rfl, ?_, ?_⟩
    · refine hfin _ (fun k hk => ?_) (by simp)
      iterate 10 refine (Below.heap_setCell _ _ _ _ (by show k ≠ w.heap.size; omega)).trans ?_
      rfl
    · refine slq_row (T := 51) ?_ (by omega) ?_
      · iterate 10 refine (Below.heap_setCell _ _ _ _ (by show w.heap.size + 1 + 1 ≠ w.heap.size; omega)).trans ?_
        exact st7.known 0 _ rfl
      · have := st7.lt 0 rfl
        simpa using this
    · iterate 10 refine Below.setCell ?_ (by show w.heap.size ≤ w.heap.size; exact Nat.le_refl _) _
      exact st7.hb
  · go_wp2
    refine bodyPost_ret (v := .agg #[.bool closed, .bool cw, .bool cv, .int .u8 K, .iface 105 (.slice (some ⟨g, 0, none⟩) (ixby K l (nSeg closed l)).length (ixby K l (nSeg closed l)).length), fl r0, fl r1, fl r2, fl r3, .slice (some ⟨w.heap.size + 1 + 1, 0, none⟩) l.length l.length]) (by simp [results, Try.results37, go_sem, d0, d1, d2, d3, d4, d5, d6, d7, d8, d9]) rfl ⟨_, _, ?_, by subst e1 e2 e3 e4 e5 e6; rfl, ?_, ?_⟩
    · refine hfin _ (fun k hk => ?_) (by simp)
      iterate 10 refine (Below.heap_setCell _ _ _ _ (by show k ≠ w.heap.size; omega)).trans ?_
      rfl
    · refine slq_row (T := 51) ?_ (by omega) ?_
      · iterate 10 refine (Below.heap_setCell _ _ _ _ (by show w.heap.size + 1 + 1 ≠ w.heap.size; omega)).trans ?_
        exact st7.known 0 _ rfl
      · have := st7.lt 0 rfl
        simpa using this
    · iterate 10 refine Below.setCell ?_ (by show w.heap.size ≤ w.heap.size; exact Nat.le_refl _) _
      exact st7.hb
end Go.Proofs.Ytdhljiediafeoaa
