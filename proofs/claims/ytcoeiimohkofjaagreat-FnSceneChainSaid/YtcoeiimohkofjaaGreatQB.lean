import Derived.Test.YtcoeiimohkofjaaGreatSr
import Derived.Test.YtcoeiimohkofjaaGreatQA
import Derived.Test.YtcoeiimohkofjaaGreatQS
set_option linter.unusedSimpArgs false
set_option linter.unusedVariables false
/-! buildIndex, of few segments, exactly. -/
namespace PF
theorem seg_pts {closed : Bool} {l : List (Int × Int)} {k : Nat} (hk : k < Go.Proofs.YtcoeiimohkofjaaGreat.nSeg closed l) : k < l.length ∧ (if k = l.length - 1 then 0 else k + 1) < l.length := by
  unfold Go.Proofs.YtcoeiimohkofjaaGreat.nSeg at hk
  split at hk
  · split at hk
    · omega
    · split at hk <;> split <;> omega
  · split <;> omega
/-- the point behind point k -/
def nxp (l : List (Int × Int)) (k : Nat) : Int × Int := at' l (if k = l.length - 1 then 0 else k + 1)
/-- the rectangle of segment k -/
def sgx (l : List (Int × Int)) (k : Nat) : Int × Int × Int × Int := (min (at' l k).1 (nxp l k).1, min (at' l k).2 (nxp l k).2, max (at' l k).1 (nxp l k).1, max (at' l k).2 (nxp l k).2)
/-- the rectangle of the first segments -/
def rbx (l : List (Int × Int)) : Nat → Int × Int × Int × Int
  | 0 => (0, 0, 0, 0)
  | n + 1 => (ifz n (sgx l n).1 (min (rbx l n).1 (sgx l n).1), ifz n (sgx l n).2.1 (min (rbx l n).2.1 (sgx l n).2.1), ifz n (sgx l n).2.2.1 (max (rbx l n).2.2.1 (sgx l n).2.2.1), ifz n (sgx l n).2.2.2 (max (rbx l n).2.2.2 (sgx l n).2.2.2))
def BdR (r : Int × Int × Int × Int) : Prop := Bd4 r.1 r.2.1 r.2.2.1 r.2.2.2
theorem sgx_bd {l : List (Int × Int)} (h : ∀ p ∈ l, Bnd p) (k : Nat) : BdR (sgx l k) := by
  have h1 := at_bnd h k
  have h2 : Bnd (nxp l k) := at_bnd h _
  obtain ⟨a, b⟩ := h1
  obtain ⟨c, d⟩ := h2
  unfold BdR Bd4 sgx
  simp only
  omega
theorem rbx_bd {l : List (Int × Int)} (h : ∀ p ∈ l, Bnd p) : ∀ n, BdR (rbx l n) := by
  intro n
  induction n with
  | zero => unfold BdR Bd4 rbx; simp
  | succ n ih =>
    have h1 := sgx_bd h n
    unfold BdR Bd4 at *
    simp only [rbx, ifz]
    split <;> omega
theorem min_fb (a b : Int) : (if b < a then fb b else fb a) = fb (min a b) := by
  split
  · rw [show min a b = b from by omega]
  · rw [show min a b = a from by omega]
theorem max_fb (a b : Int) : (if b < a then fb a else fb b) = fb (max a b) := by
  split
  · rw [show max a b = a from by omega]
  · rw [show max a b = b from by omega]
/-- the index behind its head -/
def ixrest (K : Nat) (l : List (Int × Int)) (n : Nat) : List Nat := if K = 1 then tby (rbx l n).1 (rbx l n).2.1 (rbx l n).2.2.1 (rbx l n).2.2.2 n else qbytes n
/-- the index' bytes -/
def ixby (K : Nat) (l : List (Int × Int)) (n : Nat) : List Nat := K :: (le4 ((ixrest K l n).length + 5) ++ ixrest K l n)
end PF
namespace Go.Proofs.YtcoeiimohkofjaaGreat
open Go.RowKit PF JR
theorem nSeg_le (closed : Bool) (l : List (Int × Int)) : nSeg closed l ≤ l.length := by
  unfold nSeg; repeat' split
  all_goals omega
theorem SerB.below {w w' : World} {sb lo hi B : Nat} {closed : Bool} {l : List (Int × Int)} {ss : Array Value} (h : SerB w sb closed l lo hi ss) (hb : Below B w w') (h1 : sb < B) (h2 : hi ≤ B) : SerB w' sb closed l lo hi ss := by
  obtain ⟨h0, hs, g1, v, g2, g3⟩ := h
  exact ⟨(hb.block sb h1).trans h0, hs, g1, v, g2, g3.keep' fun b _ hb2 _ => hb.block b (by omega)⟩
/-- what the field of the index holds; its block is from number lo up to hi -/
def IxV (K : Nat) (l : List (Int × Int)) (n lo hi : Nat) (w : World) (x : Value) : Prop :=
  (K = 0 ∧ x = .nilIface) ∨ (K ≠ 0 ∧ ∃ g, x = .iface 140 (.slice (some ⟨g, 0, none⟩) (ixby K l n).length (ixby K l n).length) ∧ lo ≤ g ∧ g < hi ∧ w.heap[g]? = some (.cells ((ixby K l n).map byv).toArray 5 (0, 0)))
theorem IxV.keep {K : Nat} {l : List (Int × Int)} {n lo hi : Nat} {w w' : World} {x : Value} (h : IxV K l n lo hi w x) (hk : ∀ k, lo ≤ k → k < hi → k < w.heap.size → w'.heap[k]? = w.heap[k]?) : IxV K l n lo hi w' x := by
  rcases h with h | ⟨h0, g, h1, h2, h3, h4⟩
  · exact .inl h
  · exact .inr ⟨h0, g, h1, h2, h3, (hk g h2 h3 (lt_of_some h4)).trans h4⟩
theorem IxV.wide {K : Nat} {l : List (Int × Int)} {n lo hi lo' hi' : Nat} {w : World} {x : Value} (h : IxV K l n lo hi w x) (h1 : lo' ≤ lo) (h2 : hi ≤ hi') : IxV K l n lo' hi' w x := by
  rcases h with h | ⟨h0, g, g1, g2, g3, g4⟩
  · exact .inl h
  · exact .inr ⟨h0, g, g1, by omega, by omega, g4⟩



end Go.Proofs.YtcoeiimohkofjaaGreat
set_option linter.unusedSimpArgs false
set_option linter.unusedVariables false
/-! makeSeries, with an index, exactly. -/
namespace PF
/-- is a ring too short -/
def tooS (closed : Bool) (l : List (Int × Int)) : Bool := closed && decide (l.length < 3)
def ppB (closed : Bool) (l : List (Int × Int)) : Int × Int × Int × Int := if tooS closed l then (0, 0, 0, 0) else box l
def ppV (closed : Bool) (l : List (Int × Int)) : Bool := if tooS closed l then false else !(cvs l l.length).1
def ppW (closed : Bool) (l : List (Int × Int)) : Bool := if tooS closed l then false else decide (0 < cws l l.length)
end PF
namespace Go.Proofs.YtcoeiimohkofjaaGreat
open Go.RowKit PF JR
theorem fb_zero : fb 0 = 0 := by decide +kernel
set_option maxRecDepth 100000 in
set_option maxHeartbeats 2000000 in
theorem pp_c (closed : Bool) (l : List (Int × Int)) (hl : l.length ≤ 1000) (hl2 : 2 ≤ l.length) (hbd : ∀ p ∈ l, Bnd p) (v : Value) (lo hi : Nat) (w : World) (hv : SlQ lo hi w v l) :
    Calls Tryz.prog 67 #[v, .bool closed] w fun e w' => e = .returned (.tuple #[.bool (ppV closed l), .agg #[fl (fb (ppB closed l).1), fl (fb (ppB closed l).2.1), fl (fb (ppB closed l).2.2.1), fl (fb (ppB closed l).2.2.2)], .bool (ppW closed l)]) ∧ Below w.heap.size w w' := by
  cases ht : tooS closed l with
  | false =>
    unfold ppV ppB ppW
    simp only [ht, Bool.false_eq_true, if_false]
    refine processPoints_c closed l (at' l 0) (at_get (by omega)) hl hl2 (fun hc => ?_) hbd v lo hi w hv
    subst hc
    simpa [tooS] using ht
  | true =>
    unfold ppV ppB ppW
    simp only [ht, if_true, fb_zero]
    obtain ⟨rfl, h2⟩ : closed = true ∧ l.length < 3 := by simpa [tooS] using ht
    obtain ⟨A, c, rfl⟩ := hv.len
    have h3 : (l.length : Int) < 3 := by omega
    clear ht hv hbd
    generalize l.length = n at *
    have hn := heap_alloc_new w (.cells #[fl 0, fl 0, fl 0, fl 0] 81)
    go_enter Tryz.func67, Tryz.ntmps67
    go_wp2
    exact bodyPost_ret (v := .tuple #[.bool false, .agg #[fl 0, fl 0, fl 0, fl 0], .bool false]) (by simp [results, Tryz.results67, go_sem]) rfl ⟨rfl, by repeat first | exact Below.refl _ _ | refine Below.alloc ?_ (by simp <;> omega) _ | refine Below.setCell ?_ (by simp <;> omega) _⟩
/-- the cells of a series of these points, with an index of kind K -/
def serC (K : Nat) (closed : Bool) (l : List (Int × Int)) (ix v : Value) : Array Value :=
  #[.bool closed, .bool (ppW closed l), .bool (ppV closed l), .int .u8 K, ix, fl (fb (ppB closed l).1), fl (fb (ppB closed l).2.1), fl (fb (ppB closed l).2.2.1), fl (fb (ppB closed l).2.2.2), v]
/-- what makeSeries gives, with an index of kind K -/
def MkP (K : Nat) (closed : Bool) (l : List (Int × Int)) (w : World) (e : Ending) (w' : World) : Prop :=
  ∃ (ix v' : Value), IxV K l (nSeg closed l) w.heap.size w'.heap.size w' ix ∧ e = .returned (.agg (serC K closed l ix v')) ∧ SlQ w.heap.size w'.heap.size w' v' l ∧ Below w.heap.size w w'

set_option maxRecDepth 100000 in
set_option maxHeartbeats 4000000 in
theorem makeSeriesK_c (K : Nat) (hK2 : K = 0) (closed : Bool) (l : List (Int × Int)) (hl : l.length ≤ 12) (h2l : 2 ≤ l.length) (hbd : ∀ p ∈ l, Bnd p)
    (ob : Nat) (v : Value) (lo hb0 : Nat) (w : World) (hhb : hb0 ≤ w.heap.size) (hob : w.heap[ob]? = some (.cells #[.int .u8 K, .int .i64 0] 106 (0, 0))) (hv : SlQ lo hb0 w v l) :
    Calls Tryz.prog 61 #[v, .bool true, .bool closed, .pointer (some ⟨ob, 0, none⟩)] w (MkP K closed l w) := by
  have hne : 0 < l.length := by omega
  unfold MkP serC
  obtain ⟨i0, hi, hz0, hz1, hz2⟩ := info_parts infoF
  have hmk : ∀ u : World, (Instr.makeSlice 87 (.int .i64 l.length) (.int .i64 l.length)).run Tryz.prog u = .ok (.slice (some ⟨u.heap.size, 0, none⟩) l.length l.length) (u.alloc (.cells (madeCells #[fl 0, fl 0] (l.length * 2)) 79)) := by
    intro u
    have := run_make (P := Tryz.prog) u 87 79 i0 (.agg #[fl 0, fl 0]) Tryz.underlying87 hi hz0 .i64 .i64 l.length l.length (by omega) (by omega) (by rw [hz2]; omega) (by omega)
    rw [hz1] at this
    have e : (Value.agg #[fl 0, fl 0]).cells = #[fl 0, fl 0] := rfl
    rw [e] at this
    simpa using this
  have hv0 := hv
  obtain ⟨A, c, rfl, hk⟩ := hv
  obtain ⟨p0, hp0⟩ : ∃ p, l[0]? = some p := ⟨l[0], by simp [hne]⟩
  obtain ⟨b, rfl, -, -, g1, g2⟩ := hk 0 p0 hp0
  go_enter Tryz.func61, Tryz.ntmps61
  go_wp2
  have st0 := (((Blk.nil w).push rfl #[.bool false, .bool false, .bool false, .int .u8 0, .nilIface, fl 0, fl 0, fl 0, fl 0, .slice none 0 0] 110).push (b := w.heap.size + 1) (by simp) #[.bool closed, .bool false, .bool false, .int .u8 0, .nilIface, fl 0, fl 0, fl 0, fl 0, .slice (some ⟨w.heap.size + 1 + 1, 0, none⟩) l.length l.length] 110).push (b := w.heap.size + 1 + 1) (by simp) (madeCells #[fl 0, fl 0] (l.length * 2)) 79
  have hsrc0 := (SlQ.src hv0)
  have hsz := size_madeCells #[fl 0, fl 0] (l.length * 2)
  rw [run_copy_wide _ _ _ _ 79 _ _ _ _ _ _ 2 _ _ (cellsF l) Tryz.underlying87 (by rw [hi]; simp [hz1]) (st0.known 0 _ rfl) (by simp [cellsF_len, Nat.min_self]) (fun j v hj => (st0.hb.cell (World.block_lt_of_cell? w _ (hsrc0 j v hj))).trans (hsrc0 j v hj)) (by simp [cellsF_len, hsz]) (cellsF_one l)]
  have hrow : (cellsF l ++ (madeCells #[fl 0, fl 0] (l.length * 2)).toList.drop (cellsF l).length).toArray = (cellsF l).toArray := by
    rw [List.drop_eq_nil_of_le (by simp [cellsF_len, hsz]), List.append_nil]
  rw [hrow]
  have st1 := st0.row 0 (cs' := (cellsF l).toArray) rfl ⟨.inl rfl, .inr (by show _ ≠ _; omega), .inr (by show _ ≠ _; omega), trivial⟩ (by omega)
  have hoblt := lt_of_some hob
  have ho0 := st1.hb.block ob hoblt
  have ho1 := ho0.trans hob
  clear st0 hsrc0 hsz hrow ho0 hmk
  simp only [Result.andThen_ok]
  generalize World.setRow _ (w.heap.size + 1 + 1) (cellsF l).toArray = w4 at *
  have x0 := st1.cell 1 rfl 0
  have x1 := st1.cell 1 rfl 1
  have x2 := st1.cell 1 rfl 2
  have x3 := st1.cell 1 rfl 3
  have x4 := st1.cell 1 rfl 4
  have x5 := st1.cell 1 rfl 5
  have x6 := st1.cell 1 rfl 6
  have x7 := st1.cell 1 rfl 7
  have x8 := st1.cell 1 rfl 8
  have x9 := st1.cell 1 rfl 9
  have xf := fun o => st1.frozen 1 rfl o
  simp only [List.set_cons_zero, List.getElem?_toArray, List.getElem?_cons_zero, List.getElem?_cons_succ] at x0 x1 x2 x3 x4 x5 x6 x7 x8 x9
  have sq := st1.slq 0 rfl l.length
  simp only [Oper.upon]
  go_wp2_with (go_at_call 67; refine JR.StopM.out ?_)
  refine ⟨?_⟩
  have hv4 := hv0.keep (fun k _ h2 => st1.hb.block k (by omega))
  refine (pp_c closed l (by omega) h2l hbd _ lo hb0 _ hv4).mono ?_
  rintro e w5 ⟨rfl, hb⟩
  generalize e1 : ppV closed l = cv at *
  generalize e2 : ppW closed l = cw at *
  generalize e3 : fb (ppB closed l).1 = r0 at *
  generalize e4 : fb (ppB closed l).2.1 = r1 at *
  generalize e5 : fb (ppB closed l).2.2.1 = r2 at *
  generalize e6 : fb (ppB closed l).2.2.2 = r3 at *
  have st2 := st1.ext hb
  have ho2 := (hb.block ob (lt_of_some ho1)).trans ho1
  clear x0 x1 x2 x3 x4 x5 x6 x7 x8 x9 xf sq hb st1 hv4 ho1
  have oc0 := cellAt ho2 0
  have oc1 := cellAt ho2 1
  have x0 := st2.cell 1 rfl 0
  have x1 := st2.cell 1 rfl 1
  have x2 := st2.cell 1 rfl 2
  have x3 := st2.cell 1 rfl 3
  have x4 := st2.cell 1 rfl 4
  have x5 := st2.cell 1 rfl 5
  have x6 := st2.cell 1 rfl 6
  have x7 := st2.cell 1 rfl 7
  have x8 := st2.cell 1 rfl 8
  have x9 := st2.cell 1 rfl 9
  have xf := fun o => st2.frozen 1 rfl o
  simp only [List.set_cons_zero, List.getElem?_toArray, List.getElem?_cons_zero, List.getElem?_cons_succ] at oc0 oc1 x0 x1 x2 x3 x4 x5 x6 x7 x8 x9
  subst hK2
  go_upto_if 49 with (fail)
  have p0 := st2.put (o := 2) (v := .bool cv) 1 rfl ⟨.inr (by show _ ≠ _; omega), .inl rfl, .inr (by show _ ≠ _; omega), trivial⟩ (by omega)
  have p1 := p0.put (o := 5) (v := fl r0) 1 rfl ⟨.inr (by show _ ≠ _; omega), .inl rfl, .inr (by show _ ≠ _; omega), trivial⟩ (by omega)
  have p2 := p1.put (o := 6) (v := fl r1) 1 rfl ⟨.inr (by show _ ≠ _; omega), .inl rfl, .inr (by show _ ≠ _; omega), trivial⟩ (by omega)
  have p3 := p2.put (o := 7) (v := fl r2) 1 rfl ⟨.inr (by show _ ≠ _; omega), .inl rfl, .inr (by show _ ≠ _; omega), trivial⟩ (by omega)
  have p4 := p3.put (o := 8) (v := fl r3) 1 rfl ⟨.inr (by show _ ≠ _; omega), .inl rfl, .inr (by show _ ≠ _; omega), trivial⟩ (by omega)
  have p5 := p4.put (o := 1) (v := .bool cw) 1 rfl ⟨.inr (by show _ ≠ _; omega), .inl rfl, .inr (by show _ ≠ _; omega), trivial⟩ (by omega)
  clear p0 p1 p2 p3 p4 st2 x0 x1 x2 x3 x4 x5 x6 x7 x8 x9 xf oc0 oc1 ho2
  generalize (((((w5.setCell _ _).setCell _ _).setCell _ _).setCell _ _).setCell _ _).setCell _ _ = w6 at *
  simp only [List.setIfInBounds_toArray, List.set_cons_zero, List.set_cons_succ] at p5
  have st7 := p5
  have oc0 := cellAt ((p5.hb.block ob (lt_of_some hob)).trans hob) 0
  have oc1 := cellAt ((p5.hb.block ob (lt_of_some hob)).trans hob) 1
  simp only [List.getElem?_toArray, List.getElem?_cons_zero, List.getElem?_cons_succ] at oc0 oc1
  clear p5
  have x0 := st7.cell 1 rfl 0
  have x1 := st7.cell 1 rfl 1
  have x2 := st7.cell 1 rfl 2
  have x3 := st7.cell 1 rfl 3
  have x4 := st7.cell 1 rfl 4
  have x5 := st7.cell 1 rfl 5
  have x6 := st7.cell 1 rfl 6
  have x7 := st7.cell 1 rfl 7
  have x8 := st7.cell 1 rfl 8
  have x9 := st7.cell 1 rfl 9
  have d0 := st7.cell 2 rfl 0
  have d1 := st7.cell 2 rfl 1
  have d2 := st7.cell 2 rfl 2
  have d3 := st7.cell 2 rfl 3
  have d4 := st7.cell 2 rfl 4
  have d5 := st7.cell 2 rfl 5
  have d6 := st7.cell 2 rfl 6
  have d7 := st7.cell 2 rfl 7
  have d8 := st7.cell 2 rfl 8
  have d9 := st7.cell 2 rfl 9
  have xf := fun o => st7.frozen 1 rfl o
  have df := fun o => st7.frozen 2 rfl o
  simp only [List.set_cons_zero, List.getElem?_toArray, List.getElem?_cons_zero, List.getElem?_cons_succ] at x0 x1 x2 x3 x4 x5 x6 x7 x8 x9 d0 d1 d2 d3 d4 d5 d6 d7 d8 d9
  go_wp2
  refine bodyPost_ret (v := .agg #[.bool closed, .bool cw, .bool cv, .int .u8 0, .nilIface, fl r0, fl r1, fl r2, fl r3, .slice (some ⟨w.heap.size + 1 + 1, 0, none⟩) l.length l.length]) (by simp [results, Tryz.results61, go_sem, d0, d1, d2, d3, d4, d5, d6, d7, d8, d9]) rfl ⟨_, _, .inl ⟨rfl, rfl⟩, by subst e1 e2 e3 e4 e5 e6; rfl, ?_, ?_⟩
  · refine slq_row (T := 79) ?_ (by omega) ?_
    · iterate 10 refine (Below.heap_setCell _ _ _ _ (by show w.heap.size + 1 + 1 ≠ w.heap.size; omega)).trans ?_
      exact st7.known 0 _ rfl
    · have := st7.lt 0 rfl
      simpa using this
  · iterate 10 refine Below.setCell ?_ (by show w.heap.size ≤ w.heap.size; exact Nat.le_refl _) _
    exact st7.hb
end Go.Proofs.YtcoeiimohkofjaaGreat
set_option linter.unusedSimpArgs false
set_option linter.unusedVariables false
/-! Rings and lines with an index, exactly. -/
namespace Go.Proofs.YtcoeiimohkofjaaGreat
open Go.RowKit PF JR
/-- block b, from number lo up to hi, holds a series of these points, with an index of kind K -/
def SkP (K : Nat) (closed : Bool) (l : List (Int × Int)) (T : TypeId) (lo hi b : Nat) (w : World) : Prop :=
  ∃ (ix v' : Value), IxV K l (nSeg closed l) lo hi w ix ∧ lo ≤ b ∧ b < hi ∧ w.heap[b]? = some (.cells (serC K closed l ix v') T (0, 0)) ∧ SlQ lo hi w v' l
theorem SkP.keep {K : Nat} {closed : Bool} {l : List (Int × Int)} {T : TypeId} {lo hi b : Nat} {w w' : World} (H : SkP K closed l T lo hi b w)
    (hk : ∀ k, lo ≤ k → k < hi → k < w.heap.size → w'.heap[k]? = w.heap[k]?) : SkP K closed l T lo hi b w' := by
  obtain ⟨ix, v', h0, h1, h2, h3, h4⟩ := H
  exact ⟨ix, v', h0.keep hk, h1, h2, (hk b h1 h2 (lt_of_some h3)).trans h3, h4.keep' hk⟩
theorem SkP.below {K : Nat} {closed : Bool} {l : List (Int × Int)} {T : TypeId} {lo hi b : Nat} {w w' : World} (H : SkP K closed l T lo hi b w) (hb : Below w.heap.size w w') : SkP K closed l T lo hi b w' :=
  H.keep fun k _ _ h => hb.block k h
theorem SkP.wide {K : Nat} {closed : Bool} {l : List (Int × Int)} {T : TypeId} {lo hi lo' hi' b : Nat} {w : World} (H : SkP K closed l T lo hi b w) (h1 : lo' ≤ lo) (h2 : hi ≤ hi') : SkP K closed l T lo' hi' b w := by
  obtain ⟨ix, v', g0, g1, g2, g3, g4⟩ := H
  exact ⟨ix, v', g0.wide h1 h2, by omega, by omega, g3, g4.wide h1 h2⟩
theorem set10 {u : World} {b k o0 o1 o2 o3 o4 o5 o6 o7 o8 o9 : Nat} {v0 v1 v2 v3 v4 v5 v6 v7 v8 v9 : Value} (h : k ≠ b) :
    ((((((((((u.setCell ⟨b, o0, none⟩ v0).setCell ⟨b, o1, none⟩ v1).setCell ⟨b, o2, none⟩ v2).setCell ⟨b, o3, none⟩ v3).setCell ⟨b, o4, none⟩ v4).setCell ⟨b, o5, none⟩ v5).setCell ⟨b, o6, none⟩ v6).setCell ⟨b, o7, none⟩ v7).setCell ⟨b, o8, none⟩ v8).setCell ⟨b, o9, none⟩ v9).heap[k]? = u.heap[k]? := by
  iterate 10 refine (Below.heap_setCell _ _ _ _ h).trans ?_
  rfl
def RkP (K : Nat) (l : List (Int × Int)) (w : World) (e : Ending) (w' : World) : Prop :=
  ∃ b : Nat, e = .returned (.iface 125 (.pointer (some ⟨b, 0, none⟩))) ∧ SkP K true l 110 w.heap.size w'.heap.size b w' ∧ Below w.heap.size w w'
def LkP (K : Nat) (l : List (Int × Int)) (w : World) (e : Ending) (w' : World) : Prop :=
  ∃ b : Nat, e = .returned (.pointer (some ⟨b, 0, none⟩)) ∧ SkP K false l 112 w.heap.size w'.heap.size b w' ∧ Below w.heap.size w w'

set_option maxRecDepth 100000 in
set_option maxHeartbeats 1000000 in
theorem newRingK_c (K : Nat) (l : List (Int × Int)) (v o : Value) (w : World)
    (ms : Calls Tryz.prog 61 #[v, .bool true, .bool true, o] w (MkP K true l w)) :
    Calls Tryz.prog 65 #[v, o] w (RkP K l w) := by
  go_enter Tryz.func65, Tryz.ntmps65
  go_wp2_with (go_at_call 61; refine JR.StopM.out ?_)
  refine ⟨?_⟩
  refine ms.mono ?_
  rintro e w1 ⟨ix, v', hix, rfl, sq, hb⟩
  unfold serC
  obtain ⟨A0, c0, rfl⟩ : ∃ A c, v' = .slice A l.length c := sq.elim fun A h => h.elim fun c h => ⟨A, c, h.1⟩
  have hn := heap_alloc_new w1 (.cells (serC K true l ix (.slice A0 l.length c0)) 110)
  have hs := hb.alloc hb.size (.cells (serC K true l ix (.slice A0 l.length c0)) 110)
  have hq : SkP K true l 110 w.heap.size (w1.alloc (.cells (serC K true l ix (.slice A0 l.length c0)) 110)).heap.size w1.heap.size (w1.alloc (.cells (serC K true l ix (.slice A0 l.length c0)) 110)) := by
    refine ⟨ix, _, (hix.keep fun k _ _ h => Below.heap_alloc w1 _ k h).wide (Nat.le_refl _) (by simp), hb.size, by simp, hn, ?_⟩
    obtain ⟨A, c, hv, hk⟩ := sq.keep (fun k _ h2 => Below.heap_alloc w1 (.cells (serC K true l ix (.slice A0 l.length c0)) 110) k h2)
    refine ⟨A, c, hv, fun k p hp => ?_⟩
    obtain ⟨b, h1, h2, h3, h4⟩ := hk k p hp
    exact ⟨b, h1, h2, by simp; omega, h4⟩
  unfold serC at hq hs
  clear hn sq hb
  generalize ppW true l = cw at *
  rcases hix with ⟨-, rfl⟩ | ⟨-, g, rfl, -⟩
  · go_wp2
    go_ret
    exact ⟨_, rfl, hq, hs⟩
  · go_wp2
    go_ret
    exact ⟨_, rfl, hq, hs⟩

set_option maxRecDepth 100000 in
set_option maxHeartbeats 1000000 in
theorem newLineK_c (K : Nat) (l : List (Int × Int)) (v o : Value) (w : World)
    (ms : ∀ u, Below w.heap.size w u → Calls Tryz.prog 61 #[v, .bool true, .bool false, o] u (MkP K false l u)) :
    Calls Tryz.prog 47 #[v, o] w (LkP K l w) := by
  have st0 := (Blk.nil w).push rfl #[.bool false, .bool false, .bool false, .int .u8 0, .nilIface, fl 0, fl 0, fl 0, fl 0, .slice none 0 0] 112
  go_enter Tryz.func47, Tryz.ntmps47
  go_wp2_with (go_at_call 61; refine JR.StopM.out ?_)
  refine ⟨?_⟩
  refine (ms _ st0.hb).mono ?_
  rintro e w1 ⟨ix, v', hix, rfl, sq, hb⟩
  unfold serC
  generalize e1 : ppV false l = cv at *
  generalize e2 : ppW false l = cw at *
  generalize e3 : fb (ppB false l).1 = R0 at *
  generalize e4 : fb (ppB false l).2.1 = R1 at *
  generalize e5 : fb (ppB false l).2.2.1 = R2 at *
  generalize e6 : fb (ppB false l).2.2.2 = R3 at *
  obtain ⟨A0, c0, rfl⟩ : ∃ A c, v' = .slice A l.length c := sq.elim fun A h => h.elim fun c h => ⟨A, c, h.1⟩
  have hix1 := hix
  have hz1 : w.heap.size + 1 ≤ w1.heap.size := by have := hb.size; simpa using this
  have hfin : ∀ u : World, (∀ k, w.heap.size + 1 ≤ k → u.heap[k]? = w1.heap[k]?) → w1.heap.size ≤ u.heap.size → IxV K l (nSeg false l) w.heap.size u.heap.size u ix := fun u h1 h2 => (hix1.keep fun k g1 _ _ => h1 k (by simp at g1; omega)).wide (by simp) h2
  clear hix1
  rcases hix with ⟨-, rfl⟩ | ⟨-, g, rfl, -⟩
  · have st1 := st0.ext hb
    have x0 := st1.cell 0 rfl 0
    have x1 := st1.cell 0 rfl 1
    have x2 := st1.cell 0 rfl 2
    have x3 := st1.cell 0 rfl 3
    have x4 := st1.cell 0 rfl 4
    have x5 := st1.cell 0 rfl 5
    have x6 := st1.cell 0 rfl 6
    have x7 := st1.cell 0 rfl 7
    have x8 := st1.cell 0 rfl 8
    have x9 := st1.cell 0 rfl 9
    have xf := fun o => st1.frozen 0 rfl o
    simp only [List.getElem?_toArray, List.getElem?_cons_zero, List.getElem?_cons_succ] at x0 x1 x2 x3 x4 x5 x6 x7 x8 x9
    go_wp2
    go_ret
    have p0 := st1.put (o := 0) (v := .bool false) 0 rfl ⟨.inl rfl, trivial⟩ (Nat.le_refl _)
    have p1 := p0.put (o := 1) (v := .bool cw) 0 rfl ⟨.inl rfl, trivial⟩ (Nat.le_refl _)
    have p2 := p1.put (o := 2) (v := .bool cv) 0 rfl ⟨.inl rfl, trivial⟩ (Nat.le_refl _)
    have p3 := p2.put (o := 3) (v := .int .u8 K) 0 rfl ⟨.inl rfl, trivial⟩ (Nat.le_refl _)
    have p4 := p3.put (o := 4) (v := .nilIface) 0 rfl ⟨.inl rfl, trivial⟩ (Nat.le_refl _)
    have p5 := p4.put (o := 5) (v := fl R0) 0 rfl ⟨.inl rfl, trivial⟩ (Nat.le_refl _)
    have p6 := p5.put (o := 6) (v := fl R1) 0 rfl ⟨.inl rfl, trivial⟩ (Nat.le_refl _)
    have p7 := p6.put (o := 7) (v := fl R2) 0 rfl ⟨.inl rfl, trivial⟩ (Nat.le_refl _)
    have p8 := p7.put (o := 8) (v := fl R3) 0 rfl ⟨.inl rfl, trivial⟩ (Nat.le_refl _)
    have p9 := p8.put (o := 9) (v := .slice A0 l.length c0) 0 rfl ⟨.inl rfl, trivial⟩ (Nat.le_refl _)
    have st2 := p9
    have he := p9.known 0 _ rfl
    have hlt := lt_of_some he
    simp only [List.setIfInBounds_toArray, List.set_cons_zero, List.set_cons_succ] at he
    clear p0 p1 p2 p3 p4 p5 p6 p7 p8 p9 x0 x1 x2 x3 x4 x5 x6 x7 x8 x9 xf
    have hsz : (((((((((((w1.setCell ⟨w.heap.size, 0, none⟩ (.bool false)).setCell ⟨w.heap.size, 1, none⟩ (.bool cw)).setCell ⟨w.heap.size, 2, none⟩ (.bool cv)).setCell ⟨w.heap.size, 3, none⟩ (.int .u8 K)).setCell ⟨w.heap.size, 4, none⟩ (.nilIface)).setCell ⟨w.heap.size, 5, none⟩ (fl R0)).setCell ⟨w.heap.size, 6, none⟩ (fl R1)).setCell ⟨w.heap.size, 7, none⟩ (fl R2)).setCell ⟨w.heap.size, 8, none⟩ (fl R3)).setCell ⟨w.heap.size, 9, none⟩ (.slice A0 l.length c0))).heap.size = w1.heap.size := by simp
    have hk : ∀ k, (w.alloc (.cells #[.bool false, .bool false, .bool false, .int .u8 0, .nilIface, fl 0, fl 0, fl 0, fl 0, .slice none 0 0] 112)).heap.size ≤ k → k < w1.heap.size → (((((((((((w1.setCell ⟨w.heap.size, 0, none⟩ (.bool false)).setCell ⟨w.heap.size, 1, none⟩ (.bool cw)).setCell ⟨w.heap.size, 2, none⟩ (.bool cv)).setCell ⟨w.heap.size, 3, none⟩ (.int .u8 K)).setCell ⟨w.heap.size, 4, none⟩ (.nilIface)).setCell ⟨w.heap.size, 5, none⟩ (fl R0)).setCell ⟨w.heap.size, 6, none⟩ (fl R1)).setCell ⟨w.heap.size, 7, none⟩ (fl R2)).setCell ⟨w.heap.size, 8, none⟩ (fl R3)).setCell ⟨w.heap.size, 9, none⟩ (.slice A0 l.length c0))).heap[k]? = w1.heap[k]? := by
      intro k h1 _
      simp at h1
      iterate 10 refine (Below.heap_setCell _ _ _ _ (by show k ≠ w.heap.size; omega)).trans ?_
      rfl
    have sq2 := sq.keep hk
    refine ⟨_, rfl, ⟨.nilIface, _, (hfin _ (fun k hk' => set10 (by omega)) (by simp)), Nat.le_refl _, hlt, by subst e1 e2 e3 e4 e5 e6; exact he, ?_⟩, st2.hb⟩
    obtain ⟨A, c, hv, hq⟩ := sq2
    refine ⟨A, c, hv, fun k p hp => ?_⟩
    obtain ⟨b, h1, h2, h3, h4⟩ := hq k p hp
    exact ⟨b, h1, by simp at h2; omega, by rw [hsz]; exact h3, h4⟩
  · have st1 := st0.ext hb
    have x0 := st1.cell 0 rfl 0
    have x1 := st1.cell 0 rfl 1
    have x2 := st1.cell 0 rfl 2
    have x3 := st1.cell 0 rfl 3
    have x4 := st1.cell 0 rfl 4
    have x5 := st1.cell 0 rfl 5
    have x6 := st1.cell 0 rfl 6
    have x7 := st1.cell 0 rfl 7
    have x8 := st1.cell 0 rfl 8
    have x9 := st1.cell 0 rfl 9
    have xf := fun o => st1.frozen 0 rfl o
    simp only [List.getElem?_toArray, List.getElem?_cons_zero, List.getElem?_cons_succ] at x0 x1 x2 x3 x4 x5 x6 x7 x8 x9
    go_wp2
    go_ret
    have p0 := st1.put (o := 0) (v := .bool false) 0 rfl ⟨.inl rfl, trivial⟩ (Nat.le_refl _)
    have p1 := p0.put (o := 1) (v := .bool cw) 0 rfl ⟨.inl rfl, trivial⟩ (Nat.le_refl _)
    have p2 := p1.put (o := 2) (v := .bool cv) 0 rfl ⟨.inl rfl, trivial⟩ (Nat.le_refl _)
    have p3 := p2.put (o := 3) (v := .int .u8 K) 0 rfl ⟨.inl rfl, trivial⟩ (Nat.le_refl _)
    have p4 := p3.put (o := 4) (v := .iface 140 (.slice (some ⟨g, 0, none⟩) (ixby K l (nSeg false l)).length (ixby K l (nSeg false l)).length)) 0 rfl ⟨.inl rfl, trivial⟩ (Nat.le_refl _)
    have p5 := p4.put (o := 5) (v := fl R0) 0 rfl ⟨.inl rfl, trivial⟩ (Nat.le_refl _)
    have p6 := p5.put (o := 6) (v := fl R1) 0 rfl ⟨.inl rfl, trivial⟩ (Nat.le_refl _)
    have p7 := p6.put (o := 7) (v := fl R2) 0 rfl ⟨.inl rfl, trivial⟩ (Nat.le_refl _)
    have p8 := p7.put (o := 8) (v := fl R3) 0 rfl ⟨.inl rfl, trivial⟩ (Nat.le_refl _)
    have p9 := p8.put (o := 9) (v := .slice A0 l.length c0) 0 rfl ⟨.inl rfl, trivial⟩ (Nat.le_refl _)
    have st2 := p9
    have he := p9.known 0 _ rfl
    have hlt := lt_of_some he
    simp only [List.setIfInBounds_toArray, List.set_cons_zero, List.set_cons_succ] at he
    clear p0 p1 p2 p3 p4 p5 p6 p7 p8 p9 x0 x1 x2 x3 x4 x5 x6 x7 x8 x9 xf
    have hsz : (((((((((((w1.setCell ⟨w.heap.size, 0, none⟩ (.bool false)).setCell ⟨w.heap.size, 1, none⟩ (.bool cw)).setCell ⟨w.heap.size, 2, none⟩ (.bool cv)).setCell ⟨w.heap.size, 3, none⟩ (.int .u8 K)).setCell ⟨w.heap.size, 4, none⟩ (.iface 140 (.slice (some ⟨g, 0, none⟩) (ixby K l (nSeg false l)).length (ixby K l (nSeg false l)).length))).setCell ⟨w.heap.size, 5, none⟩ (fl R0)).setCell ⟨w.heap.size, 6, none⟩ (fl R1)).setCell ⟨w.heap.size, 7, none⟩ (fl R2)).setCell ⟨w.heap.size, 8, none⟩ (fl R3)).setCell ⟨w.heap.size, 9, none⟩ (.slice A0 l.length c0))).heap.size = w1.heap.size := by simp
    have hk : ∀ k, (w.alloc (.cells #[.bool false, .bool false, .bool false, .int .u8 0, .nilIface, fl 0, fl 0, fl 0, fl 0, .slice none 0 0] 112)).heap.size ≤ k → k < w1.heap.size → (((((((((((w1.setCell ⟨w.heap.size, 0, none⟩ (.bool false)).setCell ⟨w.heap.size, 1, none⟩ (.bool cw)).setCell ⟨w.heap.size, 2, none⟩ (.bool cv)).setCell ⟨w.heap.size, 3, none⟩ (.int .u8 K)).setCell ⟨w.heap.size, 4, none⟩ (.iface 140 (.slice (some ⟨g, 0, none⟩) (ixby K l (nSeg false l)).length (ixby K l (nSeg false l)).length))).setCell ⟨w.heap.size, 5, none⟩ (fl R0)).setCell ⟨w.heap.size, 6, none⟩ (fl R1)).setCell ⟨w.heap.size, 7, none⟩ (fl R2)).setCell ⟨w.heap.size, 8, none⟩ (fl R3)).setCell ⟨w.heap.size, 9, none⟩ (.slice A0 l.length c0))).heap[k]? = w1.heap[k]? := by
      intro k h1 _
      simp at h1
      iterate 10 refine (Below.heap_setCell _ _ _ _ (by show k ≠ w.heap.size; omega)).trans ?_
      rfl
    have sq2 := sq.keep hk
    refine ⟨_, rfl, ⟨.iface 140 (.slice (some ⟨g, 0, none⟩) (ixby K l (nSeg false l)).length (ixby K l (nSeg false l)).length), _, (hfin _ (fun k hk' => set10 (by omega)) (by simp)), Nat.le_refl _, hlt, by subst e1 e2 e3 e4 e5 e6; exact he, ?_⟩, st2.hb⟩
    obtain ⟨A, c, hv, hq⟩ := sq2
    refine ⟨A, c, hv, fun k p hp => ?_⟩
    obtain ⟨b, h1, h2, h3, h4⟩ := hq k p hp
    exact ⟨b, h1, by simp at h2; omega, by rw [hsz]; exact h3, h4⟩
theorem index2_c (K : Nat) (hK : K = 0) (w : World) : Calls Tryz.prog 43 #[.int .i64 K, .int .i64 0] w fun e w' => e = .returned (.pointer (some ⟨w.heap.size, 0, none⟩)) ∧ w' = w.alloc (.cells #[.int .u8 K, .int .i64 0] 106) := by
  subst hK
  go_enter Tryz.func43, Tryz.ntmps43
  go_wp2
  go_ret
  exact ⟨rfl, rfl⟩
end Go.Proofs.YtcoeiimohkofjaaGreat
set_option linter.unusedSimpArgs false
set_option linter.unusedVariables false
/-! Numbers read from the index. -/
namespace PF
open Go Go.RowKit JR
end PF
namespace Go.Proofs.YtcoeiimohkofjaaGreat
open Go.RowKit PF JR
end Go.Proofs.YtcoeiimohkofjaaGreat
set_option linter.unusedSimpArgs false
set_option linter.unusedVariables false
/-! Search: what a closure makes of the segments that a rectangle meets, in their order. -/
namespace PF
open Go Go.RowKit JR
/-- the segment k, as a value -/
def sgv (l : List (Int × Int)) (k : Nat) : Value := .agg #[fl (fb (at' l k).1), fl (fb (at' l k).2), fl (fb (nxp l k).1), fl (fb (nxp l k).2)]
end PF
namespace Go.Proofs.YtcoeiimohkofjaaGreat
open Go.RowKit PF JR
/-- rectangles and segments stay -/
def KeepT (u u' : World) : Prop := u.heap.size ≤ u'.heap.size ∧ ∀ (k : Nat) (cs : Array Value) (T : TypeId), T = 81 ∨ T = 135 → u.heap[k]? = some (.cells cs T (0, 0)) → u'.heap[k]? = some (.cells cs T (0, 0))
/-- what a search needs: hit k: the rectangle meets segment k; Inv k: what holds before segment k, Stop: what holds once the closure has said no -/
structure SrchOk (F : FuncId) (caps : Array Value) (K : Nat) (closed : Bool) (l : List (Int × Int)) (T : TypeId) (lo hi b : Nat) (ix v' q : Value) (hit : Nat → Bool) (Inv : Nat → World → Prop) (Stop : World → Prop) : Prop where
  len : l.length ≤ 12
  two : 2 ≤ l.length
  ent : ∀ args u, (callFunc F args).run Tryz.prog u = .ok (.enter F args) u
  bnd : ∀ p ∈ l, Bnd p
  blk : lo ≤ b ∧ b < hi
  ser : ∀ k u, Inv k u → IxV K l (nSeg closed l) lo hi u ix ∧ u.heap[b]? = some (.cells (serC K closed l ix v') T (0, 0)) ∧ SlQ lo hi u v' l
  ext : ∀ k u u', Inv k u → Ext u u' → Inv k u'
  exs : ∀ u u', Stop u → Ext u u' → Stop u'
  meet : ∀ k u, k < nSeg closed l → Calls Tryz.prog 135 #[.agg #[fl (fb (sgx l k).1), fl (fb (sgx l k).2.1), fl (fb (sgx l k).2.2.1), fl (fb (sgx l k).2.2.2)], q] u fun e u' => e = .returned (.bool (hit k)) ∧ Below u.heap.size u u'
  step : ∀ k u, k < nSeg closed l → hit k = true → Inv k u → Calls Tryz.prog F (#[sgv l k, .int .i64 k] ++ caps) u fun e u' => ∃ c : Bool, e = .returned (.bool c) ∧ (c = true → Inv (k + 1) u') ∧ (c = false → Stop u') ∧ KeepT u u'
  skip : ∀ k u, k < nSeg closed l → hit k = false → Inv k u → Inv (k + 1) u
theorem SrchOk.skp {F : FuncId} {caps : Array Value} {K : Nat} {closed : Bool} {l : List (Int × Int)} {T : TypeId} {lo hi b : Nat} {ix v' q : Value} {hit : Nat → Bool} {Inv : Nat → World → Prop} {Stop : World → Prop} (H : SrchOk F caps K closed l T lo hi b ix v' q hit Inv Stop) {k : Nat} {u : World} (h : Inv k u) : SkP K closed l T lo hi b u := by
  obtain ⟨h1, h2, h3⟩ := H.ser k u h
  exact ⟨ix, v', h1, H.blk.1, H.blk.2, h2, h3⟩
theorem sgr_x (l : List (Int × Int)) (h : ∀ p ∈ l, Bnd p) (k : Nat) (w : World) : Calls Tryz.prog 71 #[.agg #[fl (fb (at' l k).1), fl (fb (at' l k).2), fl (fb (nxp l k).1), fl (fb (nxp l k).2)]] w fun e w' => e = .returned (.agg #[fl (fb (sgx l k).1), fl (fb (sgx l k).2.1), fl (fb (sgx l k).2.2.1), fl (fb (sgx l k).2.2.2)]) ∧ Below w.heap.size w w' := by
  have h1 := at_bnd h k
  have h2 : Bnd (nxp l k) := at_bnd h _
  have := sgr_c (fb_rep (at' l k).1 (by have := h1.1; omega)) (fb_rep (at' l k).2 (by have := h1.2; omega)) (fb_rep (nxp l k).1 (by have := h2.1; omega)) (fb_rep (nxp l k).2 (by have := h2.2; omega)) w
  rw [min_fb, min_fb, max_fb, max_fb] at this
  exact this
theorem sgat_x {K : Nat} {closed : Bool} {l : List (Int × Int)} {T : TypeId} {lo hi b : Nat} {w : World} (H : SkP K closed l T lo hi b w) (hl : l.length ≤ 1000) (k : Nat) (hk : k < nSeg closed l) :
    Calls Tryz.prog 70 #[.pointer (some ⟨b, 0, none⟩), .int .i64 k] w fun e w' => e = .returned (sgv l k) ∧ Below w.heap.size w w' := by
  obtain ⟨ix, v', -, -, -, h3, h4⟩ := H
  obtain ⟨g1, g2⟩ := seg_pts hk
  exact sgat_c b k lo hi closed l _ _ _ w ⟨h3, rfl, rfl, v', rfl, h4⟩ hl (at_get g1) (at_get g2)
theorem nseg_x {K : Nat} {closed : Bool} {l : List (Int × Int)} {T : TypeId} {lo hi b : Nat} {w : World} (H : SkP K closed l T lo hi b w) (hl : l.length ≤ 1000) (h2 : 2 ≤ l.length) (hb : ∀ p ∈ l, Bnd p) :
    Calls Tryz.prog 69 #[.pointer (some ⟨b, 0, none⟩)] w fun e w' => e = .returned (.int .i64 (nSeg closed l)) ∧ Below w.heap.size w w' := by
  obtain ⟨ix, v', -, -, -, h3, h4⟩ := H
  exact nseg_c b lo hi closed l _ w ⟨h3, rfl, rfl, v', rfl, h4⟩ hl h2 hb
theorem noBytes (w : World) : (Instr.typeAssert .nilIface 20 140 true).run Tryz.prog w = .ok (.tuple #[.slice none 0 0, .bool false]) w := by kernel_rfl

set_option maxRecDepth 100000 in
set_option maxHeartbeats 4000000 in
theorem search0_c (F : FuncId) (caps : Array Value) (closed : Bool) (l : List (Int × Int)) (T : TypeId) (lo hi b q0 q1 q2 q3 : Nat) (ix v' : Value) (hit : Nat → Bool) (Inv : Nat → World → Prop) (Stop : World → Prop)
    (H : SrchOk F caps 0 closed l T lo hi b ix v' (.agg #[fl q0, fl q1, fl q2, fl q3]) hit Inv Stop) (w : World) (h0 : Inv 0 w) :
    Calls Tryz.prog 131 #[.pointer (some ⟨b, 0, none⟩), .agg #[fl q0, fl q1, fl q2, fl q3], .func (.func F) #[] caps] w fun e w' => e = .returned (.tuple #[]) ∧ (Inv (nSeg closed l) w' ∨ Stop w') := by
  have hnb := noBytes
  obtain ⟨hix, hrow, -⟩ := H.ser 0 w h0
  obtain ⟨-, rfl⟩ : True ∧ ix = .nilIface := by
    rcases hix with ⟨-, h⟩ | ⟨h, -⟩
    · exact ⟨trivial, h⟩
    · exact absurd rfl h
  have hb1 : Below w.heap.size w (w.alloc (.cells #[fl q0, fl q1, fl q2, fl q3] 81)) := (Below.refl _ w).alloc (Nat.le_refl _) _
  have x4 := cellAt ((hb1.block b (lt_of_some hrow)).trans hrow) 4
  have I1 := H.ext 0 _ _ h0 hb1
  have R1 := heap_alloc_new w (.cells #[fl q0, fl q1, fl q2, fl q3] 81)
  simp only [serC, List.getElem?_toArray, List.getElem?_cons_zero, List.getElem?_cons_succ] at x4
  have hns := nseg_x (H.skp I1) (by have := H.len; omega) H.two H.bnd
  clear hrow hix h0
  generalize hw1 : w.alloc (.cells #[fl q0, fl q1, fl q2, fl q3] 81) = w1 at *
  go_enter Tryz.func131, Tryz.ntmps131
  go_wp2_with (go_at_call 69; refine JR.StopN.out ?_)
  refine ⟨?_⟩
  refine hns.mono ?_
  rintro e w2 ⟨rfl, hb2⟩
  have I2 := H.ext 0 _ _ I1 hb2
  have R2 := (hb2.block _ (lt_of_some R1)).trans R1
  have B2 := hb1.trans (hb2.mono hb1.size)
  clear hns hb2 I1 R1 x4 hnb hb1 hw1
  have hN12 := Nat.le_trans (nSeg_le closed l) H.len
  generalize hN : nSeg closed l = N at *
  generalize hrb : w.heap.size = rb at *
  go_wp2
  go_loopw [8] (fun i wr => ∃ k : Nat, k ≤ N ∧ i = .int .i64 k ∧ Inv k wr ∧ wr.heap[rb]? = some (.cells #[fl q0, fl q1, fl q2, fl q3] 81 (0, 0))) (fun i _ => N - (intOf i).toNat)
  case atStart => exact ⟨0, Nat.zero_le _, rfl, I2, R2⟩
  case round =>
    clear I2 R2 B2
    obtain ⟨k, hk, rfl, I3, R3⟩ := hrel
    rcases Nat.lt_or_ge k N with hlt | hge
    · have hsg := sgat_x (H.skp I3) (by have := H.len; omega) k (by omega)
      have hlt' : (k : Int) < (N : Int) := by omega
      go_wp2_with (go_at_call 70; refine JR.StopN.out ?_)
      refine ⟨?_⟩
      refine hsg.mono ?_
      rintro e w4 ⟨rfl, hb4⟩
      have I4 := H.ext k _ _ I3 hb4
      have R4 := (hb4.block _ (lt_of_some R3)).trans R3
      clear hsg I3 R3 hb4
      unfold sgv
      go_wp2_with (with_reducible refine stop_region ?_)
      refine ⟨?_⟩
      have hal := (Below.refl w4.heap.size w4).alloc (Nat.le_refl _) (.cells #[fl (fb (at' l k).1), fl (fb (at' l k).2), fl (fb (nxp l k).1), fl (fb (nxp l k).2)] 135)
      have V4 := heap_alloc_new w4 (.cells #[fl (fb (at' l k).1), fl (fb (at' l k).2), fl (fb (nxp l k).1), fl (fb (nxp l k).2)] 135)
      have I5 := H.ext k _ _ I4 hal
      have R5 := (hal.block _ (lt_of_some R4)).trans R4
      clear I4 R4 hal
      generalize w4.alloc (.cells #[fl (fb (at' l k).1), fl (fb (at' l k).2), fl (fb (nxp l k).1), fl (fb (nxp l k).2)] 135) = w5 at *
      generalize w4.heap.size = s9 at *
      have W0 := cellAt V4 0
      have W1 := cellAt V4 1
      have W2 := cellAt V4 2
      have W3 := cellAt V4 3
      have Y0 := cellAt R5 0
      have Y1 := cellAt R5 1
      have Y2 := cellAt R5 2
      have Y3 := cellAt R5 3
      simp only [List.getElem?_toArray, List.getElem?_cons_zero, List.getElem?_cons_succ] at W0 W1 W2 W3 Y0 Y1 Y2 Y3
      refine wp_region_K [] [.val (.agg #[fl (fb (at' l k).1), fl (fb (at' l k).2), fl (fb (nxp l k).1), fl (fb (nxp l k).2)]),
          .val (.agg #[fl (fb (sgx l k).1), fl (fb (sgx l k).2.1), fl (fb (sgx l k).2.2.1), fl (fb (sgx l k).2.2.2)]),
          .val (.agg #[fl q0, fl q1, fl q2, fl q3]),
          .val (.bool (hit k))]
        [[.ini 9], [.frm 0 27], [.ini 4], [.frm 1 28, .frm 2 29]]
        mixed (by kernel_rfl) (by kernel_rfl) (allPre_of ⟨trivial, trivial, trivial, trivial, trivial⟩)
        ⟨OpOk.quiet rfl ?_,
          OpOk.call rfl ?_,
          OpOk.quiet rfl ?_,
          OpOk.call rfl ?_, trivial⟩ ?_
      · intro a u hG hf
        simp [facts, Need.fact, Ent.val, Act.eval] at hf
        have a0 := (hG.cell (p := ⟨s9, 0, none⟩) (lt_of_some V4) (by simp)).trans W0
        have a1 := (hG.cell (p := ⟨s9, 1, none⟩) (lt_of_some V4) (by simp)).trans W1
        have a2 := (hG.cell (p := ⟨s9, 2, none⟩) (lt_of_some V4) (by simp)).trans W2
        have a3 := (hG.cell (p := ⟨s9, 3, none⟩) (lt_of_some V4) (by simp)).trans W3
        have r0 := (hG.cell (p := ⟨rb, 0, none⟩) (lt_of_some R5) (by simp)).trans Y0
        have r1 := (hG.cell (p := ⟨rb, 1, none⟩) (lt_of_some R5) (by simp)).trans Y1
        have r2 := (hG.cell (p := ⟨rb, 2, none⟩) (lt_of_some R5) (by simp)).trans Y2
        have r3 := (hG.cell (p := ⟨rb, 3, none⟩) (lt_of_some R5) (by simp)).trans Y3
        go_simp
      · intro a u _ hf
        simp [facts, Need.fact, Ent.val, Act.eval] at hf
        refine ⟨_, _, by go_simp, (sgr_x l H.bnd k _).mono ?_⟩
        rintro e w' ⟨rfl, hb⟩
        exact ⟨_, rfl, hb, rfl⟩
      · intro a u hG hf
        simp [facts, Need.fact, Ent.val, Act.eval] at hf
        have a0 := (hG.cell (p := ⟨s9, 0, none⟩) (lt_of_some V4) (by simp)).trans W0
        have a1 := (hG.cell (p := ⟨s9, 1, none⟩) (lt_of_some V4) (by simp)).trans W1
        have a2 := (hG.cell (p := ⟨s9, 2, none⟩) (lt_of_some V4) (by simp)).trans W2
        have a3 := (hG.cell (p := ⟨s9, 3, none⟩) (lt_of_some V4) (by simp)).trans W3
        have r0 := (hG.cell (p := ⟨rb, 0, none⟩) (lt_of_some R5) (by simp)).trans Y0
        have r1 := (hG.cell (p := ⟨rb, 1, none⟩) (lt_of_some R5) (by simp)).trans Y1
        have r2 := (hG.cell (p := ⟨rb, 2, none⟩) (lt_of_some R5) (by simp)).trans Y2
        have r3 := (hG.cell (p := ⟨rb, 3, none⟩) (lt_of_some R5) (by simp)).trans Y3
        go_simp
      · intro a u _ hf
        simp [facts, Need.fact, Ent.val, Act.eval] at hf
        refine ⟨_, _, by go_simp, (H.meet k _ (by omega)).mono ?_⟩
        rintro e w' ⟨rfl, hb⟩
        exact ⟨_, rfl, hb, rfl⟩
      intro u lw hw wc hKp hE hI hD
      simp only [allE, Ent.val] at hE
      obtain ⟨u0, u1, u2, u3, -⟩ := hE
      simp only [Nat.reduceAdd] at u0 u1 u2 u3
      simp only [allPut, Act.put, Nat.reduceAdd, u0, u1, u2, u3]
      try simp only [List.setIfInBounds_toArray, List.set_cons_zero, List.set_cons_succ]
      clear hI hD u0 u1 u2 u3
      have I6 := H.ext k _ _ I5 hKp.below
      have V6 := (hKp.block _ (lt_of_some V4) (by simp)).trans V4
      have R6 := (hKp.block _ (lt_of_some R5) (by simp)).trans R5
      clear hKp I5 V4 R5 W0 W1 W2 W3 Y0 Y1 Y2 Y3
      have W0 := cellAt V6 0
      have W1 := cellAt V6 1
      have W2 := cellAt V6 2
      have W3 := cellAt V6 3
      simp only [List.getElem?_toArray, List.getElem?_cons_zero, List.getElem?_cons_succ] at W0 W1 W2 W3
      generalize hh : hit k = h at *
      cases h with
      | false =>
        have I7 := H.skip k _ (by omega) hh I6
        clear hh
        go_wp2
        go_roundw
        case rel => exact ⟨k + 1, by omega, by go_num, I7, R6⟩
        case measure => simp [intOf]; omega
      | true =>
        have hst := H.step k _ (by omega) hh I6
        clear hh
        unfold sgv at hst
        go_wp2
        rw [H.ent, Oper.upon_enter]
        refine hst.mono ?_
        rintro e w7 ⟨c, rfl, hi, hs, hk7⟩
        have R7 := hk7.2 _ _ _ (.inl rfl) R6
        clear hst hk7 I6 R6 V6 W0 W1 W2 W3
        cases c with
        | true =>
          have I7 := hi rfl
          clear hi hs
          go_wp2
          go_roundw
          case rel => exact ⟨k + 1, by omega, by go_num, I7, R7⟩
          case measure => simp [intOf]; omega
        | false =>
          have S7 := hs rfl
          clear hi hs
          go_wp2
          exact bodyPost_ret (v := .tuple #[]) (by simp [results, Tryz.results131, go_sem]) rfl ⟨rfl, .inr S7⟩
    · have hkk : k = N := by omega
      subst hkk
      go_wp2
      go_end0
      exact ⟨rfl, .inl (by rw [hN]; exact I3)⟩
end Go.Proofs.YtcoeiimohkofjaaGreat
set_option linter.unusedSimpArgs false
set_option linter.unusedVariables false
/-! Search by the r-tree. -/
namespace PF
open Go Go.RowKit JR
end PF
namespace Go.Proofs.YtcoeiimohkofjaaGreat
open Go.RowKit PF JR


theorem SrchOk.all {F : FuncId} {caps : Array Value} {K : Nat} {closed : Bool} {l : List (Int × Int)} {T : TypeId} {lo hi b : Nat} {ix v' q : Value} {hit : Nat → Bool} {Inv : Nat → World → Prop} {Stop : World → Prop} (H : SrchOk F caps K closed l T lo hi b ix v' q hit Inv Stop) (hno : ∀ k, k < nSeg closed l → hit k = false) {u : World} (h : Inv 0 u) : ∀ k, k ≤ nSeg closed l → Inv k u := by
  intro k
  induction k with
  | zero => intro _; exact h
  | succ k ih => intro hk; exact H.skip k _ (by omega) (hno k (by omega)) (ih (by omega))
end Go.Proofs.YtcoeiimohkofjaaGreat
set_option linter.unusedSimpArgs false
set_option linter.unusedVariables false
/-! Search by the quad tree; Search with any index. -/
namespace PF
open Go Go.RowKit JR
end PF
namespace Go.Proofs.YtcoeiimohkofjaaGreat
open Go.RowKit PF JR


/-- Search, with any index -/
theorem search_c (F : FuncId) (caps : Array Value) (K : Nat) (hK : K = 0) (closed : Bool) (l : List (Int × Int)) (T : TypeId) (lo hi b q0 q1 q2 q3 : Nat) (ix v' : Value) (hit : Nat → Bool) (Inv : Nat → World → Prop) (Stop : World → Prop) (rhit : Bool)
    (H : SrchOk F caps K closed l T lo hi b ix v' (.agg #[fl q0, fl q1, fl q2, fl q3]) hit Inv Stop)
    (hroot : K = 1 → nSeg closed l ≠ 0 → ∀ u, Calls Tryz.prog 135 #[.agg #[fl q0, fl q1, fl q2, fl q3], .agg #[fl (fb (rbx l (nSeg closed l)).1), fl (fb (rbx l (nSeg closed l)).2.1), fl (fb (rbx l (nSeg closed l)).2.2.1), fl (fb (rbx l (nSeg closed l)).2.2.2)]] u fun e u' => e = .returned (.bool rhit) ∧ Below u.heap.size u u')
    (hpr : rhit = false → ∀ k, k < nSeg closed l → hit k = false) (w : World) (h0 : Inv 0 w) :
    Calls Tryz.prog 131 #[.pointer (some ⟨b, 0, none⟩), .agg #[fl q0, fl q1, fl q2, fl q3], .func (.func F) #[] caps] w fun e w' => e = .returned (.tuple #[]) ∧ (Inv (nSeg closed l) w' ∨ Stop w') := by
  rcases Nat.eq_zero_or_pos K with rfl | h
  · exact search0_c F caps closed l T lo hi b q0 q1 q2 q3 ix v' hit Inv Stop H w h0
  · omega
end Go.Proofs.YtcoeiimohkofjaaGreat
