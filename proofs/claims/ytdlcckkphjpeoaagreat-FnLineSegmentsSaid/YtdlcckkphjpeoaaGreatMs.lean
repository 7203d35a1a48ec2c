import Derived.Test.YtdlcckkphjpeoaaGreatCpy
import Derived.Test.YtdlcckkphjpeoaaGreatPts
set_option linter.unusedSimpArgs false
set_option linter.unusedVariables false
namespace Go.Proofs.YtdlcckkphjpeoaaGreat
open Go.RowKit PF JR
theorem _root_.PF.SlQ.src {lo h : Nat} {u : World} {b n c : Nat} {l : List (Int × Int)} (H : SlQ lo h u (.slice (some ⟨b, 0, none⟩) n c) l) : ∀ (j : Nat) (v : Value), (cellsF l)[j]? = some v → u.cell? ((⟨b, 0, none⟩ : Addr).add j) = some v := by
  intro j v hj
  have hlt : j < l.length * 2 := by
    rw [← cellsF_len]
    rcases Nat.lt_or_ge j (cellsF l).length with h | h
    · exact h
    · rw [List.getElem?_eq_none h] at hj; cases hj
  have hk : j / 2 < l.length := by omega
  obtain ⟨p, hp⟩ : ∃ p, l[j / 2]? = some p := ⟨l[j / 2], by simp [hk]⟩
  obtain ⟨A, c', hv, hh⟩ := H
  obtain ⟨b', hA, -, -, h1, h2⟩ := hh (j / 2) p hp
  obtain ⟨e1, e2⟩ := cellsF_get l (j / 2) p hp
  have hb : b' = b := by
    rw [hA] at hv
    simp at hv
    exact hv.1.symm
  subst hb
  have ea : (⟨b', 0, none⟩ : Addr).add j = ⟨b', 0 + j, none⟩ := by unfold Addr.add; split <;> simp_all
  rw [ea]
  rcases Nat.mod_two_eq_zero_or_one j with hm | hm
  · have : j / 2 * 2 = j := by omega
    rw [this] at e1 h1
    rw [hj] at e1
    rw [h1, e1]
  · have : j / 2 * 2 + 1 = j := by omega
    rw [this] at e2
    rw [show 0 + j / 2 * 2 + 1 = 0 + j by omega] at h2
    rw [hj] at e2
    rw [h2, e2]
theorem _root_.PF.cellsF_one (l : List (Int × Int)) : ∀ v ∈ cellsF l, v.oneCell' = true := by
  intro v hv
  unfold cellsF at hv
  rw [List.mem_flatMap] at hv
  obtain ⟨p, -, hp⟩ := hv
  simp at hp
  rcases hp with rfl | rfl <;> rfl
theorem _root_.PF.Blk.row {w u : World} {L : List (Nat × Array Value × TypeId)} (h : Blk w u L) (i : Nat) {b : Nat} {cs cs' : Array Value} {T : TypeId} (hi : L[i]? = some (b, cs, T)) (hne : apart b i 0 L) (hw : w.heap.size ≤ b) : Blk w (u.setRow b cs') (L.set i (b, cs', T)) := by
  have hk := h.known i _ hi
  refine ⟨fun j x hx => ?_, h.hb.trans ⟨rfl, rfl, rfl, by rw [JR.setRow_size]; exact Nat.le_refl _, fun k hk' => JR.setRow_other (by omega)⟩⟩
  by_cases hj : j = i
  · subst hj
    rw [List.getElem?_set_self (by rw [List.getElem?_eq_some_iff] at hi; exact hi.1)] at hx
    cases hx
    exact JR.setRow_same hk
  · rw [List.getElem?_set_ne (fun h => hj h.symm)] at hx
    exact (JR.setRow_other (apart_get L 0 hne j x (by omega) hx)).trans (h.known j x hx)
theorem _root_.PF.Blk.slq {w u : World} {L : List (Nat × Array Value × TypeId)} (h : Blk w u L) (i : Nat) {b : Nat} {l : List (Int × Int)} {T : TypeId} (hi : L[i]? = some (b, (cellsF l).toArray, T)) (c : Nat) : SlQ b (b + 1) u (.slice (some ⟨b, 0, none⟩) l.length c) l := by
  refine ⟨_, c, rfl, fun k p hp => ⟨b, rfl, Nat.le_refl _, by omega, ?_⟩⟩
  obtain ⟨h1, h2⟩ := cellsF_get l k p hp
  rw [h.cell i hi, h.cell i hi]
  simp [h1, h2]
theorem _root_.PF.slq_row {u : World} {lo h b c : Nat} {l : List (Int × Int)} {T : TypeId} (hr : u.heap[b]? = some (.cells (cellsF l).toArray T (0, 0))) (h1 : lo ≤ b) (h2 : b < h) : SlQ lo h u (.slice (some ⟨b, 0, none⟩) l.length c) l := by
  refine ⟨_, c, rfl, fun k p hp => ⟨b, rfl, h1, h2, ?_⟩⟩
  obtain ⟨e1, e2⟩ := cellsF_get l k p hp
  rw [cellAt hr, cellAt hr]
  simp [e1, e2]
/-- what makeSeries gives, no index asked for -/
def MsP (closed : Bool) (l : List (Int × Int)) (r0 r1 r2 r3 : Nat) (w : World) (e : Ending) (w' : World) : Prop :=
  ∃ (cv cw : Bool) (v' : Value), e = .returned (.agg #[.bool closed, .bool cw, .bool cv, .int .u8 0, .nilIface, fl r0, fl r1, fl r2, fl r3, v']) ∧ SlQ w.heap.size w'.heap.size w' v' l ∧ Below w.heap.size w w'
structure _root_.JR.StopM (p : Prop) : Prop where out : p
/-- what processPoints gives: the rectangle is known, convex and clockwise are some Bools -/
def PpP (r0 r1 r2 r3 : Nat) (w : World) (e : Ending) (w' : World) : Prop :=
  ∃ cv cw : Bool, e = .returned (.tuple #[.bool cv, .agg #[fl r0, fl r1, fl r2, fl r3], .bool cw]) ∧ Below w.heap.size w w'

set_option maxRecDepth 100000 in
set_option maxHeartbeats 2000000 in
theorem makeSeries_c (closed : Bool) (l : List (Int × Int)) (hl : l.length ≤ 1000000) (r0 r1 r2 r3 : Nat)
    (pp : ∀ (v : Value) (u : World), (∃ a b, SlQ a b u v l) → Calls Tryz.prog 65 #[v, .bool closed] u (PpP r0 r1 r2 r3 u))
    (ob : Nat) (v : Value) (lo hb0 : Nat) (w : World) (hhb : hb0 ≤ w.heap.size) (hob : w.heap[ob]? = some (.cells #[.int .u8 0, .int .i64 0] 99 (0, 0))) (hv : SlQ lo hb0 w v l) (hne : 0 < l.length) :
    Calls Tryz.prog 56 #[v, .bool true, .bool closed, .pointer (some ⟨ob, 0, none⟩)] w (MsP closed l r0 r1 r2 r3 w) := by
  obtain ⟨i0, hi, hz0, hz1, hz2⟩ := info_parts infoF
  have hmk : ∀ u : World, (Instr.makeSlice 72 (.int .i64 l.length) (.int .i64 l.length)).run Tryz.prog u = .ok (.slice (some ⟨u.heap.size, 0, none⟩) l.length l.length) (u.alloc (.cells (madeCells #[fl 0, fl 0] (l.length * 2)) 64)) := by
    intro u
    have := run_make (P := Tryz.prog) u 72 64 i0 (.agg #[fl 0, fl 0]) Tryz.underlying72 hi hz0 .i64 .i64 l.length l.length (by omega) (by omega) (by rw [hz2]; omega) (by omega)
    rw [hz1] at this
    have e : (Value.agg #[fl 0, fl 0]).cells = #[fl 0, fl 0] := rfl
    rw [e] at this
    simpa using this
  have hv0 := hv
  obtain ⟨A, c, rfl, hk⟩ := hv
  obtain ⟨p0, hp0⟩ : ∃ p, l[0]? = some p := ⟨l[0], by simp [hne]⟩
  obtain ⟨b, rfl, -, -, g1, g2⟩ := hk 0 p0 hp0
  go_enter Tryz.func56, Tryz.ntmps56
  go_wp2
  have st0 := (((Blk.nil w).push rfl #[.bool false, .bool false, .bool false, .int .u8 0, .nilIface, fl 0, fl 0, fl 0, fl 0, .slice none 0 0] 103).push (b := w.heap.size + 1) (by simp) #[.bool closed, .bool false, .bool false, .int .u8 0, .nilIface, fl 0, fl 0, fl 0, fl 0, .slice (some ⟨w.heap.size + 1 + 1, 0, none⟩) l.length l.length] 103).push (b := w.heap.size + 1 + 1) (by simp) (madeCells #[fl 0, fl 0] (l.length * 2)) 64
  have hsrc0 := (SlQ.src hv0)
  have hsz := size_madeCells #[fl 0, fl 0] (l.length * 2)
  rw [run_copy_wide _ _ _ _ 64 _ _ _ _ _ _ 2 _ _ (cellsF l) Tryz.underlying72 (by rw [hi]; simp [hz1]) (st0.known 0 _ rfl) (by simp [cellsF_len, Nat.min_self]) (fun j v hj => (st0.hb.cell (World.block_lt_of_cell? w _ (hsrc0 j v hj))).trans (hsrc0 j v hj)) (by simp [cellsF_len, hsz]) (cellsF_one l)]
  have hrow : (cellsF l ++ (madeCells #[fl 0, fl 0] (l.length * 2)).toList.drop (cellsF l).length).toArray = (cellsF l).toArray := by
    rw [List.drop_eq_nil_of_le (by simp [cellsF_len, hsz]), List.append_nil]
  rw [hrow]
  have st1 := st0.row 0 (cs' := (cellsF l).toArray) rfl ⟨.inl rfl, .inr (by show _ ≠ _; omega), .inr (by show _ ≠ _; omega), trivial⟩ (by omega)
  have hoblt := lt_of_some hob
  have ho0 := st1.hb.block ob hoblt
  have ho1 := ho0.trans hob
  clear st0 hsrc0 hsz hrow ho0 hmk
  simp only [Result.andThen_ok]
  generalize World.setRow _ (w.heap.size + 1 + 1) (cellsF l).toArray = w4 at *
  have x0 := st1.cell 1 rfl 0
  have x1 := st1.cell 1 rfl 1
  have x2 := st1.cell 1 rfl 2
  have x3 := st1.cell 1 rfl 3
  have x4 := st1.cell 1 rfl 4
  have x5 := st1.cell 1 rfl 5
  have x6 := st1.cell 1 rfl 6
  have x7 := st1.cell 1 rfl 7
  have x8 := st1.cell 1 rfl 8
  have x9 := st1.cell 1 rfl 9
  have xf := fun o => st1.frozen 1 rfl o
  simp only [List.set_cons_zero, List.getElem?_toArray, List.getElem?_cons_zero, List.getElem?_cons_succ] at x0 x1 x2 x3 x4 x5 x6 x7 x8 x9
  have sq := st1.slq 0 rfl l.length
  simp only [Oper.upon]
  go_wp2_with (go_at_call 65; refine JR.StopM.out ?_)
  refine ⟨?_⟩
  have hv4 := hv0.keep (fun k _ h2 => st1.hb.block k (by omega))
  refine (pp _ _ ⟨lo, hb0, hv4⟩).mono ?_
  rintro e w5 ⟨cv, cw, rfl, hb⟩
  have st2 := st1.ext hb
  have ho2 := (hb.block ob (lt_of_some ho1)).trans ho1
  clear x0 x1 x2 x3 x4 x5 x6 x7 x8 x9 xf sq hb st1 hv4 ho1
  have oc0 := cellAt ho2 0
  have oc1 := cellAt ho2 1
  have x0 := st2.cell 1 rfl 0
  have x1 := st2.cell 1 rfl 1
  have x2 := st2.cell 1 rfl 2
  have x3 := st2.cell 1 rfl 3
  have x4 := st2.cell 1 rfl 4
  have x5 := st2.cell 1 rfl 5
  have x6 := st2.cell 1 rfl 6
  have x7 := st2.cell 1 rfl 7
  have x8 := st2.cell 1 rfl 8
  have x9 := st2.cell 1 rfl 9
  have d0 := st2.cell 2 rfl 0
  have d1 := st2.cell 2 rfl 1
  have d2 := st2.cell 2 rfl 2
  have d3 := st2.cell 2 rfl 3
  have d4 := st2.cell 2 rfl 4
  have d5 := st2.cell 2 rfl 5
  have d6 := st2.cell 2 rfl 6
  have d7 := st2.cell 2 rfl 7
  have d8 := st2.cell 2 rfl 8
  have d9 := st2.cell 2 rfl 9
  have xf := fun o => st2.frozen 1 rfl o
  have df := fun o => st2.frozen 2 rfl o
  simp only [List.set_cons_zero, List.getElem?_toArray, List.getElem?_cons_zero, List.getElem?_cons_succ] at oc0 oc1 x0 x1 x2 x3 x4 x5 x6 x7 x8 x9 d0 d1 d2 d3 d4 d5 d6 d7 d8 d9
  go_wp2
  refine bodyPost_ret (v := .agg #[.bool closed, .bool cw, .bool cv, .int .u8 0, .nilIface, fl r0, fl r1, fl r2, fl r3, .slice (some ⟨w.heap.size + 1 + 1, 0, none⟩) l.length l.length]) (by simp [results, Tryz.results56, go_sem, d0, d1, d2, d3, d4, d5, d6, d7, d8, d9]) rfl ⟨cv, cw, _, rfl, ?_, ?_⟩
  · refine slq_row (T := 64) ?_ (by omega) ?_
    · iterate 16 refine (Below.heap_setCell _ _ _ _ (by first | (show w.heap.size + 1 + 1 ≠ w.heap.size; omega) | (show w.heap.size + 1 + 1 ≠ w.heap.size + 1; omega))).trans ?_
      exact st2.known 0 _ rfl
    · have := st2.lt 0 rfl
      simpa using this
  · iterate 16 refine Below.setCell ?_ (by first | (show w.heap.size ≤ w.heap.size; omega) | (show w.heap.size ≤ w.heap.size + 1; omega)) _
    exact st2.hb
end Go.Proofs.YtdlcckkphjpeoaaGreat
