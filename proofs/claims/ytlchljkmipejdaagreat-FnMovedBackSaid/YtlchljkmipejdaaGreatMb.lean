import Derived.Test.YtlchljkmipejdaaGreatNr
import Derived.Test.YtlchljkmipejdaaGreatNp
set_option linter.unusedSimpArgs false
set_option linter.unusedVariables false
/-! makeSeries of points that are not copied, with the usual options; the moves of points and rectangles. -/
namespace PF
open Go Go.RowKit JR
def mvp (dx dy : Int) (p : Int × Int) : Int × Int := (p.1 + dx, p.2 + dy)
end PF
namespace Go.Proofs.YtlchljkmipejdaaGreat
open Go.RowKit PF JR
theorem dio_c (w : World) : Calls Tryz.prog 55 #[] w fun e w' => e = .returned (.pointer (some ⟨w.heap.size, 0, none⟩)) ∧ w' = w.alloc (.cells #[.int .u8 2, .int .i64 64] 101) := by
  go_enter Tryz.func55, Tryz.ntmps55
  go_wp2
  go_ret
  exact ⟨rfl, rfl⟩
/-- what makeSeries gives: the points are the ones that were handed in -/
def MnP (closed : Bool) (v : Value) (r0 r1 r2 r3 : Nat) (w : World) (e : Ending) (w' : World) : Prop :=
  ∃ (cv cw : Bool), e = .returned (.agg #[.bool closed, .bool cw, .bool cv, .int .u8 0, .nilIface, fl r0, fl r1, fl r2, fl r3, v]) ∧ Below w.heap.size w w'

set_option maxRecDepth 100000 in
set_option maxHeartbeats 2000000 in
theorem makeN_c (closed : Bool) (l : List (Int × Int)) (h : okL closed l) (hl63 : l.length < 64) (v : Value) (lo hb0 : Nat) (w : World) (hv : SlQ lo hb0 w v l) :
    Calls Tryz.prog 53 #[v, .bool false, .bool closed, .pointer none] w (MnP closed v (fb (box l).1) (fb (box l).2.1) (fb (box l).2.2.1) (fb (box l).2.2.2) w) := by
  have pp := fun u (hu : Below w.heap.size w u) => processPoints_c closed l (at' l 0) (at_get (by have := h.1; omega)) h.2.2.1 h.1 h.2.1 h.2.2.2 v lo hb0 u (hv.below hu)
  have hrx : (bxs l ((at' l 0).1, (at' l 0).2, (at' l 0).1, (at' l 0).2)) = box l := rfl
  rw [hrx] at pp
  obtain ⟨A, c, rfl⟩ := hv.len
  obtain ⟨r, hr⟩ : ∃ r, box l = r := ⟨_, rfl⟩
  rw [hr] at pp ⊢
  clear hr hrx hv h
  have st0 := (Blk.nil w).push rfl #[.bool false, .bool false, .bool false, .int .u8 0, .nilIface, fl 0, fl 0, fl 0, fl 0, .slice none 0 0] 104
  go_enter Tryz.func53, Tryz.ntmps53
  go_wp2_with (go_at_call 55; refine JR.StopM.out ?_)
  refine ⟨?_⟩
  refine (dio_c _).mono ?_
  rintro e w1 ⟨rfl, rfl⟩
  have st1 := st0.push (b := w.heap.size + 1) (by simp) #[.int .u8 2, .int .i64 64] 101
  clear st0
  go_wp2_with (go_at_call 60; refine JR.StopM.out ?_)
  refine ⟨?_⟩
  have st2 := st1.push (b := w.heap.size + 1 + 1) (by simp) #[.bool closed, .bool false, .bool false, .int .u8 0, .nilIface, fl 0, fl 0, fl 0, fl 0, .slice A l.length c] 104
  refine (pp _ st2.hb).mono ?_
  rintro e w5 ⟨rfl, hb⟩
  have st3 := st2.ext hb
  clear hb st1 st2 pp
  generalize (!(cvs l l.length).1) = cv at *
  generalize decide (0 < cws l l.length) = cw at *
  have oc0 := st3.cell 1 rfl 0
  have oc1 := st3.cell 1 rfl 1
  have x0 := st3.cell 0 rfl 0
  have x1 := st3.cell 0 rfl 1
  have x2 := st3.cell 0 rfl 2
  have x3 := st3.cell 0 rfl 3
  have x4 := st3.cell 0 rfl 4
  have x5 := st3.cell 0 rfl 5
  have x6 := st3.cell 0 rfl 6
  have x7 := st3.cell 0 rfl 7
  have x8 := st3.cell 0 rfl 8
  have x9 := st3.cell 0 rfl 9
  have d0 := st3.cell 2 rfl 0
  have d1 := st3.cell 2 rfl 1
  have d2 := st3.cell 2 rfl 2
  have d3 := st3.cell 2 rfl 3
  have d4 := st3.cell 2 rfl 4
  have d5 := st3.cell 2 rfl 5
  have d6 := st3.cell 2 rfl 6
  have d7 := st3.cell 2 rfl 7
  have d8 := st3.cell 2 rfl 8
  have d9 := st3.cell 2 rfl 9
  have xf := fun o => st3.frozen 0 rfl o
  have df := fun o => st3.frozen 2 rfl o
  simp only [List.getElem?_toArray, List.getElem?_cons_zero, List.getElem?_cons_succ] at oc0 oc1 x0 x1 x2 x3 x4 x5 x6 x7 x8 x9 d0 d1 d2 d3 d4 d5 d6 d7 d8 d9
  have d64 : ¬ (64 : Int) ≤ (l.length : Int) := by omega
  have d64' := decide_eq_false d64
  go_wp2
  refine bodyPost_ret (v := .agg #[.bool closed, .bool cw, .bool cv, .int .u8 0, .nilIface, fl (fb r.1), fl (fb r.2.1), fl (fb r.2.2.1), fl (fb r.2.2.2), .slice A l.length c]) (by simp [results, Tryz.results53, go_sem, d0, d1, d2, d3, d4, d5, d6, d7, d8, d9]) rfl ⟨cv, cw, rfl, ?_⟩
  iterate 16 refine Below.setCell ?_ (by first | exact Nat.le_refl _ | (show w.heap.size ≤ w.heap.size + 1 + 1; omega)) _
  exact st3.hb

theorem ptMove_c (x y dx dy : Int) (h1 : x.natAbs ≤ 1000000 ∧ y.natAbs ≤ 1000000) (h2 : dx.natAbs ≤ 1000000 ∧ dy.natAbs ≤ 1000000) (w : World) :
    Calls Tryz.prog 25 #[.agg #[fl (fb x), fl (fb y)], fl (fb dx), fl (fb dy)] w fun e w' => e = .returned (.agg #[fl (fb (x + dx)), fl (fb (y + dy))]) ∧ Below w.heap.size w w' := by
  have e1 := runAdd (P := Tryz.prog) (sum_fb x dx (by omega) (by omega) (by omega))
  have e2 := runAdd (P := Tryz.prog) (sum_fb y dy (by omega) (by omega) (by omega))
  go_enter Tryz.func25, Tryz.ntmps25
  go_wp2
  exact bodyPost_ret (v := .agg #[fl (fb (x + dx)), fl (fb (y + dy))]) (by simp [results, Tryz.results25, go_sem]) rfl ⟨rfl, (((Below.refl _ _).alloc (Nat.le_refl _) _).alloc (by simp) _)⟩

theorem rcMove_c (x y z t dx dy : Int) (h1 : x.natAbs ≤ 1000000 ∧ y.natAbs ≤ 1000000 ∧ z.natAbs ≤ 1000000 ∧ t.natAbs ≤ 1000000) (h2 : dx.natAbs ≤ 1000000 ∧ dy.natAbs ≤ 1000000) (w : World) :
    Calls Tryz.prog 26 #[.agg #[fl (fb x), fl (fb y), fl (fb z), fl (fb t)], fl (fb dx), fl (fb dy)] w fun e w' => e = .returned (.agg #[fl (fb (x + dx)), fl (fb (y + dy)), fl (fb (z + dx)), fl (fb (t + dy))]) ∧ Below w.heap.size w w' := by
  have e1 := runAdd (P := Tryz.prog) (sum_fb x dx (by omega) (by omega) (by omega))
  have e2 := runAdd (P := Tryz.prog) (sum_fb y dy (by omega) (by omega) (by omega))
  have e3 := runAdd (P := Tryz.prog) (sum_fb z dx (by omega) (by omega) (by omega))
  have e4 := runAdd (P := Tryz.prog) (sum_fb t dy (by omega) (by omega) (by omega))
  go_enter Tryz.func26, Tryz.ntmps26
  go_wp2
  exact bodyPost_ret (v := .agg #[fl (fb (x + dx)), fl (fb (y + dy)), fl (fb (z + dx)), fl (fb (t + dy))]) (by simp [results, Tryz.results26, go_sem]) rfl ⟨rfl, (((Below.refl _ _).alloc (Nat.le_refl _) _).alloc (by simp) _)⟩
end Go.Proofs.YtlchljkmipejdaaGreat
/-! The moves of series and lines. -/
namespace PF
open Go Go.RowKit JR
theorem setTwo {cs : Array Value} {k : Nat} {v1 v2 : Value} (hk : k * 2 + 1 < cs.size) :
    ((cs.setIfInBounds (k * 2) v1).setIfInBounds (k * 2 + 1) v2)[k * 2]? = some v1 ∧ ((cs.setIfInBounds (k * 2) v1).setIfInBounds (k * 2 + 1) v2)[k * 2 + 1]? = some v2 ∧
    ∀ j, j < k * 2 → ((cs.setIfInBounds (k * 2) v1).setIfInBounds (k * 2 + 1) v2)[j]? = cs[j]? := by
  refine ⟨?_, ?_, fun j hj => ?_⟩
  · rw [Array.getElem?_setIfInBounds_ne (by omega), Array.getElem?_setIfInBounds, if_pos rfl, if_pos (by omega)]
  · rw [Array.getElem?_setIfInBounds, if_pos rfl, if_pos (by simp; omega)]
  · rw [Array.getElem?_setIfInBounds_ne (by omega), Array.getElem?_setIfInBounds_ne (by omega)]
end PF
namespace Go.Proofs.YtlchljkmipejdaaGreat
open Go.RowKit PF JR

theorem asBs (v : Value) (w : World) : (Instr.typeAssert (.iface 107 v) 77 107 false).run Tryz.prog w = .ok v w := by kernel_rfl
theorem asBsT (v : Value) (w : World) : (Instr.typeAssert (.iface 107 v) 77 107 true).run Tryz.prog w = .ok (.tuple #[v, .bool true]) w := by kernel_rfl
theorem asPt (v : Value) (w : World) : (Instr.typeAssert (.iface 60 v) 54 60 true).run Tryz.prog w = .ok (.tuple #[v, .bool true]) w := by kernel_rfl
theorem asRc (v : Value) (w : World) : (Instr.typeAssert (.iface 62 v) 54 62 true).run Tryz.prog w = .ok (.tuple #[v, .bool true]) w := by kernel_rfl
theorem asRcPt (v : Value) (w : World) : (Instr.typeAssert (.iface 62 v) 54 60 true).run Tryz.prog w = .ok (.tuple #[.agg #[fl 0, fl 0], .bool false]) w := by kernel_rfl
theorem asLi (v : Value) (w : World) : (Instr.typeAssert (.iface 71 v) 54 71 true).run Tryz.prog w = .ok (.tuple #[v, .bool true]) w := by kernel_rfl
theorem asLiPt (v : Value) (w : World) : (Instr.typeAssert (.iface 71 v) 54 60 true).run Tryz.prog w = .ok (.tuple #[.agg #[fl 0, fl 0], .bool false]) w := by kernel_rfl
theorem asLiRc (v : Value) (w : World) : (Instr.typeAssert (.iface 71 v) 54 62 true).run Tryz.prog w = .ok (.tuple #[.agg #[fl 0, fl 0, fl 0, fl 0], .bool false]) w := by kernel_rfl
theorem asPo (v : Value) (w : World) : (Instr.typeAssert (.iface 74 v) 54 74 true).run Tryz.prog w = .ok (.tuple #[v, .bool true]) w := by kernel_rfl
theorem asPoPt (v : Value) (w : World) : (Instr.typeAssert (.iface 74 v) 54 60 true).run Tryz.prog w = .ok (.tuple #[.agg #[fl 0, fl 0], .bool false]) w := by kernel_rfl
theorem asPoRc (v : Value) (w : World) : (Instr.typeAssert (.iface 74 v) 54 62 true).run Tryz.prog w = .ok (.tuple #[.agg #[fl 0, fl 0, fl 0, fl 0], .bool false]) w := by kernel_rfl
theorem asPoLi (v : Value) (w : World) : (Instr.typeAssert (.iface 74 v) 54 71 true).run Tryz.prog w = .ok (.tuple #[.pointer none, .bool false]) w := by kernel_rfl
theorem bsIndex_c (cs : Array Value) (T : TypeId) (b : Nat) (w : World) (h : w.heap[b]? = some (.cells cs T (0, 0))) (h4 : cs[4]? = some .nilIface) :
    Calls Tryz.prog 58 #[.pointer (some ⟨b, 0, none⟩)] w fun e w' => e = .returned .nilIface ∧ w' = w := by
  have x4 := (cellAt h 4).trans h4
  go_enter Tryz.func58, Tryz.ntmps58
  go_wp2
  go_ret
  exact ⟨rfl, rfl⟩

set_option maxRecDepth 100000 in
set_option maxHeartbeats 2000000 in
theorem bsMove_c (closed : Bool) (l : List (Int × Int)) (h : okL closed l) (dx dy : Int) (hd : dx.natAbs ≤ 1000000 ∧ dy.natAbs ≤ 1000000) (hm : okL closed (l.map (mvp dx dy))) (hl63 : l.length < 64) (r0 r1 r2 r3 lo hi b : Nat) (T : TypeId) (w : World) (hs : SerP closed l r0 r1 r2 r3 T lo hi b w) :
    Calls Tryz.prog 52 #[.pointer (some ⟨b, 0, none⟩), fl (fb dx), fl (fb dy)] w fun e w' => ∃ n : Nat, e = .returned (.iface 107 (.pointer (some ⟨n, 0, none⟩))) ∧
      SerP closed (l.map (mvp dx dy)) (fb (box (l.map (mvp dx dy))).1) (fb (box (l.map (mvp dx dy))).2.1) (fb (box (l.map (mvp dx dy))).2.2.1) (fb (box (l.map (mvp dx dy))).2.2.2) 104 w.heap.size w'.heap.size n w' ∧ Below w.heap.size w w' := by
  obtain ⟨cv, cw, v', -, -, g3, g4⟩ := hs
  obtain ⟨A, c, rfl, hk⟩ := g4
  have hl0 : 0 < l.length := by have := h.1; omega
  obtain ⟨bb, rfl, -, -, hb0, -⟩ := hk 0 (l[0]) (by simp [hl0])
  have hbw : bb < w.heap.size := World.block_lt_of_cell? w _ hb0
  have hk' : ∀ k p, l[k]? = some p → ∀ u, Below w.heap.size w u → u.cell? ⟨bb, k * 2, none⟩ = some (fl (fb p.1)) ∧ u.cell? ⟨bb, k * 2 + 1, none⟩ = some (fl (fb p.2)) := by
    intro k p hp u hu
    obtain ⟨b', e, -, -, g1, g2⟩ := hk k p hp
    cases e
    rw [Nat.zero_add] at g1 g2
    exact ⟨(hu.cell (World.block_lt_of_cell? w _ g1)).trans g1, (hu.cell (World.block_lt_of_cell? w _ g2)).trans g2⟩
  have hbw2 := lt_of_some g3
  obtain ⟨i0, hi', hz0, hz1, hz2⟩ := info_parts infoF
  have hmk : ∀ u : World, (Instr.makeSlice 95 (.int .i64 l.length) (.int .i64 l.length)).run Tryz.prog u = .ok (.slice (some ⟨u.heap.size, 0, none⟩) l.length l.length) (u.alloc (.cells (madeCells #[fl 0, fl 0] (l.length * 2)) 60)) := by
    intro u
    have := run_make (P := Tryz.prog) u 95 60 i0 (.agg #[fl 0, fl 0]) Tryz.underlying95 hi' hz0 .i64 .i64 l.length l.length (by omega) (by omega) (by rw [hz2]; omega) (by omega)
    rw [hz1] at this
    have e : (Value.agg #[fl 0, fl 0]).cells = #[fl 0, fl 0] := rfl
    rw [e] at this
    simpa using this
  have x0 := cellAt g3 0
  have x3 := cellAt g3 3
  have x4 := cellAt g3 4
  have x9 := cellAt g3 9
  simp only [List.getElem?_toArray, List.getElem?_cons_zero, List.getElem?_cons_succ] at x0 x3 x4 x9
  clear hk hb0
  go_enter Tryz.func52, Tryz.ntmps52
  go_wp2
  have hsz := size_madeCells #[fl 0, fl 0] (l.length * 2)
  have stm := (Blk.nil w).push rfl (madeCells #[fl 0, fl 0] (l.length * 2)) 60
  go_loopw [8] (fun i wr => ∃ k : Nat, k ≤ l.length ∧ i = .int .i64 k ∧ ∃ cs : Array Value, cs.size = l.length * 2 ∧ Blk w wr [(w.heap.size, cs, 60)] ∧
    ∀ j p, j < k → l[j]? = some p → cs[j * 2]? = some (fl (fb (p.1 + dx))) ∧ cs[j * 2 + 1]? = some (fl (fb (p.2 + dy)))) (fun i _ => l.length - (intOf i).toNat)
  case atStart => exact ⟨0, Nat.zero_le _, rfl, _, hsz, stm, fun j p hj => absurd hj (Nat.not_lt_zero _)⟩
  case round =>
    clear stm hsz x0 x3 x4 x9 hmk
    obtain ⟨k, hkl, rfl, cs, hcs, hB, hdone⟩ := hrel
    have g3' := (hB.hb.block b hbw2).trans g3
    have x0 := cellAt g3' 0
    have x3 := cellAt g3' 3
    have x9 := cellAt g3' 9
    simp only [List.getElem?_toArray, List.getElem?_cons_zero, List.getElem?_cons_succ] at x0 x3 x9
    have hneb : b ≠ w.heap.size := Nat.ne_of_lt hbw2
    have hnebb : bb ≠ w.heap.size := Nat.ne_of_lt hbw
    rcases Nat.lt_or_ge k l.length with hlt | hge
    · obtain ⟨p, hp⟩ : ∃ p, l[k]? = some p := ⟨l[k], by simp [hlt]⟩
      have hpb := h.2.2.2 p (List.mem_of_getElem? hp)
      obtain ⟨y1, y2⟩ := hk' k p hp wr hB.hb
      have e1 := runAdd (P := Tryz.prog) (sum_fb p.1 dx (by have := hpb.1; omega) (by omega) (by have := hpb.1; omega))
      have e2 := runAdd (P := Tryz.prog) (sum_fb p.2 dy (by have := hpb.2; omega) (by omega) (by have := hpb.2; omega))
      have hc1 : k * 2 + 1 < cs.size := by omega
      have z1 := (hB.cell 0 rfl (k * 2)).trans (Array.getElem?_eq_getElem (by omega : k * 2 < cs.size))
      have z2 := (hB.cell 0 rfl (k * 2 + 1)).trans (Array.getElem?_eq_getElem hc1)
      generalize cs[k * 2]'(by omega) = c1 at z1
      generalize cs[k * 2 + 1]'hc1 = c2 at z2
      have ff := fun o => hB.frozen 0 rfl o
      have hlt' : (k : Int) < (l.length : Int) := by omega
      have hB2 := (hB.put (o := k * 2) (v := fl (fb (p.1 + dx))) 0 rfl ⟨.inl rfl, trivial⟩ (Nat.le_refl _)).put (o := k * 2 + 1) (v := fl (fb (p.2 + dy))) 0 rfl ⟨.inl rfl, trivial⟩ (Nat.le_refl _)
      obtain ⟨t1, t2, t3⟩ := setTwo (v1 := fl (fb (p.1 + dx))) (v2 := fl (fb (p.2 + dy))) hc1
      have hdone2 : ∀ j q, j < k + 1 → l[j]? = some q → ((cs.setIfInBounds (k * 2) (fl (fb (p.1 + dx)))).setIfInBounds (k * 2 + 1) (fl (fb (p.2 + dy))))[j * 2]? = some (fl (fb (q.1 + dx))) ∧ ((cs.setIfInBounds (k * 2) (fl (fb (p.1 + dx)))).setIfInBounds (k * 2 + 1) (fl (fb (p.2 + dy))))[j * 2 + 1]? = some (fl (fb (q.2 + dy))) := by
        intro j q hj hq
        by_cases hjk : j = k
        · subst hjk
          rw [hp] at hq
          cases hq
          exact ⟨t1, t2⟩
        · obtain ⟨d1, d2⟩ := hdone j q (by omega) hq
          exact ⟨(t3 _ (by omega)).trans d1, (t3 _ (by omega)).trans d2⟩
      clear hdone t1 t2 t3 hpb hp g3 g3' hk' x0 x3
      go_wp2
      go_roundw
      case rel => exact ⟨k + 1, by omega, by go_num, _, by simp; exact hcs, hB2, hdone2⟩
      case measure => simp [intOf]; omega
    · have hkk : k = l.length := by omega
      subst hkk
      have hq : SlQ w.heap.size (w.heap.size + 1) wr (.slice (some ⟨w.heap.size, 0, none⟩) l.length l.length) (l.map (mvp dx dy)) := by
        refine ⟨_, l.length, by simp, fun k p hp => ⟨w.heap.size, rfl, Nat.le_refl _, by omega, ?_⟩⟩
        rw [List.getElem?_map] at hp
        cases hl : l[k]? with
        | none => rw [hl] at hp; cases hp
        | some q =>
          rw [hl] at hp
          cases hp
          have hkl : k < l.length := by
            rcases Nat.lt_or_ge k l.length with h | h
            · exact h
            · rw [List.getElem?_eq_none h] at hl; cases hl
          obtain ⟨d1, d2⟩ := hdone k q hkl hl
          rw [Nat.zero_add]
          exact ⟨(hB.cell 0 rfl _).trans d1, (hB.cell 0 rfl _).trans d2⟩
      have hmn := fun u (hu : Below wr.heap.size wr u) => makeN_c closed (l.map (mvp dx dy)) hm (by simpa using hl63) _ _ _ u (hq.below hu)
      clear hk' hdone
      go_wp2_with (go_at_call 53; refine JR.StopM.out ?_)
      refine ⟨?_⟩
      refine (hmn _ (Below.refl _ _)).mono ?_
      rintro e w2 ⟨cv2, cw2, rfl, hb⟩
      have st2 := hB.ext hb
      have hq2 := hq.below hb
      have g4 := (hb.block b (lt_of_some g3')).trans g3'
      clear hmn hb x0 x3 x9 hq hB g3 g3'
      have x3 := cellAt g4 3
      simp only [List.getElem?_toArray, List.getElem?_cons_zero, List.getElem?_cons_succ] at x3
      have hb2 := lt_of_some g4
      have hne2 : w2.heap.size ≠ b := by omega
      have hne3 : b ≠ w2.heap.size := by omega
      obtain ⟨r, hr⟩ : ∃ r, box (l.map (mvp dx dy)) = r := ⟨_, rfl⟩
      simp only [hr]
      have st3 := ((Blk.nil w2).push rfl #[.bool closed, .bool cw2, .bool cv2, .int .u8 0, .nilIface, fl (fb r.1), fl (fb r.2.1), fl (fb r.2.2.1), fl (fb r.2.2.2), .slice (some ⟨w.heap.size, 0, none⟩) l.length l.length] 104)
      have g5 := (st3.hb.block b hb2).trans g4
      have hix := bsIndex_c _ _ b _ g5 rfl
      go_wp2_with (go_at_call 58; refine JR.StopM.out ?_)
      refine ⟨?_⟩
      refine hix.mono ?_
      rintro e w3 ⟨rfl, rfl⟩
      clear hix g5
      go_wp2
      go_ret
      have hn := st3.known 0 _ rfl
      refine ⟨w2.heap.size, rfl, ?_, (st2.hb.trans (st3.hb.mono st2.hb.size))⟩
      rw [hr]
      exact ⟨cv2, cw2, _, st2.hb.size, st3.lt 0 rfl, hn, (hq2.below st3.hb).wide (Nat.le_refl _) (by have := st2.lt 0 rfl; simp; omega)⟩

set_option maxRecDepth 100000 in
set_option maxHeartbeats 1000000 in
theorem linMove_c (l : List (Int × Int)) (h : okL false l) (dx dy : Int) (hd : dx.natAbs ≤ 1000000 ∧ dy.natAbs ≤ 1000000) (hm : okL false (l.map (mvp dx dy))) (hl63 : l.length < 64) (r0 r1 r2 r3 lo hi b : Nat) (T : TypeId) (w : World) (hs : SerP false l r0 r1 r2 r3 T lo hi b w) :
    Calls Tryz.prog 28 #[.pointer (some ⟨b, 0, none⟩), fl (fb dx), fl (fb dy)] w fun e w' => ∃ n : Nat, e = .returned (.pointer (some ⟨n, 0, none⟩)) ∧
      SerP false (l.map (mvp dx dy)) (fb (box (l.map (mvp dx dy))).1) (fb (box (l.map (mvp dx dy))).2.1) (fb (box (l.map (mvp dx dy))).2.2.1) (fb (box (l.map (mvp dx dy))).2.2.2) 106 w.heap.size w'.heap.size n w' ∧ Below w.heap.size w w' := by
  have st0 := (Blk.nil w).push rfl #[.bool false, .bool false, .bool false, .int .u8 0, .nilIface, fl 0, fl 0, fl 0, fl 0, .slice none 0 0] 106
  have hmv := bsMove_c false l h dx dy hd hm hl63 r0 r1 r2 r3 lo hi b T _ (SerP.keep hs fun k _ _ h3 => st0.hb.block k h3)
  clear hs
  go_enter Tryz.func28, Tryz.ntmps28
  go_wp2_with (go_at_call 52; refine JR.StopM.out ?_)
  refine ⟨?_⟩
  refine hmv.mono ?_
  rintro e w1 ⟨n, rfl, ⟨cv, cw, v', h1, h2, h3, h4⟩, hb⟩
  have st1 := st0.ext hb
  obtain ⟨A0, c0, rfl⟩ := h4.len
  clear hmv
  have x0 := cellAt h3 0
  have x1 := cellAt h3 1
  have x2 := cellAt h3 2
  have x3 := cellAt h3 3
  have x4 := cellAt h3 4
  have x5 := cellAt h3 5
  have x6 := cellAt h3 6
  have x7 := cellAt h3 7
  have x8 := cellAt h3 8
  have x9 := cellAt h3 9
  have d0 := st1.cell 0 rfl 0
  have d1 := st1.cell 0 rfl 1
  have d2 := st1.cell 0 rfl 2
  have d3 := st1.cell 0 rfl 3
  have d4 := st1.cell 0 rfl 4
  have d5 := st1.cell 0 rfl 5
  have d6 := st1.cell 0 rfl 6
  have d7 := st1.cell 0 rfl 7
  have d8 := st1.cell 0 rfl 8
  have d9 := st1.cell 0 rfl 9
  have df := fun o => st1.frozen 0 rfl o
  simp only [List.getElem?_toArray, List.getElem?_cons_zero, List.getElem?_cons_succ] at x0 x1 x2 x3 x4 x5 x6 x7 x8 x9 d0 d1 d2 d3 d4 d5 d6 d7 d8 d9
  simp at h1
  have hnn : w.heap.size ≠ n := by omega
  obtain ⟨r, hr⟩ : ∃ r, box (l.map (mvp dx dy)) = r := ⟨_, rfl⟩
  obtain ⟨m, hlm⟩ : ∃ m, (l.map (mvp dx dy)).length = m := ⟨_, rfl⟩
  simp only [hr] at x5 x6 x7 x8
  rw [hlm] at x9
  have p0 := st1.put (o := 0) (v := .bool false) 0 rfl ⟨.inl rfl, trivial⟩ (Nat.le_refl _)
  have p1 := p0.put (o := 1) (v := .bool cw) 0 rfl ⟨.inl rfl, trivial⟩ (Nat.le_refl _)
  have p2 := p1.put (o := 2) (v := .bool cv) 0 rfl ⟨.inl rfl, trivial⟩ (Nat.le_refl _)
  have p3 := p2.put (o := 3) (v := .int .u8 0) 0 rfl ⟨.inl rfl, trivial⟩ (Nat.le_refl _)
  have p4 := p3.put (o := 4) (v := .nilIface) 0 rfl ⟨.inl rfl, trivial⟩ (Nat.le_refl _)
  have p5 := p4.put (o := 5) (v := fl (fb (r).1)) 0 rfl ⟨.inl rfl, trivial⟩ (Nat.le_refl _)
  have p6 := p5.put (o := 6) (v := fl (fb (r).2.1)) 0 rfl ⟨.inl rfl, trivial⟩ (Nat.le_refl _)
  have p7 := p6.put (o := 7) (v := fl (fb (r).2.2.1)) 0 rfl ⟨.inl rfl, trivial⟩ (Nat.le_refl _)
  have p8 := p7.put (o := 8) (v := fl (fb (r).2.2.2)) 0 rfl ⟨.inl rfl, trivial⟩ (Nat.le_refl _)
  have p9 := p8.put (o := 9) (v := .slice A0 m c0) 0 rfl ⟨.inl rfl, trivial⟩ (Nat.le_refl _)
  have he := p9.known 0 _ rfl
  have hlt := lt_of_some he
  have hb9 := p9.hb
  simp only [List.setIfInBounds_toArray, List.set_cons_zero, List.set_cons_succ] at he
  have hkp : ∀ k, w.heap.size + 1 ≤ k → ((((((((((w1.setCell ⟨w.heap.size, 0, none⟩ (.bool false)).setCell ⟨w.heap.size, 1, none⟩ (.bool cw)).setCell ⟨w.heap.size, 2, none⟩ (.bool cv)).setCell ⟨w.heap.size, 3, none⟩ (.int .u8 0)).setCell ⟨w.heap.size, 4, none⟩ (.nilIface)).setCell ⟨w.heap.size, 5, none⟩ (fl (fb (r).1))).setCell ⟨w.heap.size, 6, none⟩ (fl (fb (r).2.1))).setCell ⟨w.heap.size, 7, none⟩ (fl (fb (r).2.2.1))).setCell ⟨w.heap.size, 8, none⟩ (fl (fb (r).2.2.2))).setCell ⟨w.heap.size, 9, none⟩ (.slice A0 m c0)).heap[k]? = w1.heap[k]? := by
    intro k hk
    iterate 10 refine (Below.heap_setCell _ _ _ _ (by show k ≠ w.heap.size; omega)).trans ?_
    rfl
  have hsz : ((((((((((w1.setCell ⟨w.heap.size, 0, none⟩ (.bool false)).setCell ⟨w.heap.size, 1, none⟩ (.bool cw)).setCell ⟨w.heap.size, 2, none⟩ (.bool cv)).setCell ⟨w.heap.size, 3, none⟩ (.int .u8 0)).setCell ⟨w.heap.size, 4, none⟩ (.nilIface)).setCell ⟨w.heap.size, 5, none⟩ (fl (fb (r).1))).setCell ⟨w.heap.size, 6, none⟩ (fl (fb (r).2.1))).setCell ⟨w.heap.size, 7, none⟩ (fl (fb (r).2.2.1))).setCell ⟨w.heap.size, 8, none⟩ (fl (fb (r).2.2.2))).setCell ⟨w.heap.size, 9, none⟩ (.slice A0 m c0)).heap.size = w1.heap.size := by simp
  clear p0 p1 p2 p3 p4 p5 p6 p7 p8 p9
  have h4' : SlQ (w.heap.size + 1) w1.heap.size w1 (.slice A0 m c0) (l.map (mvp dx dy)) := by
    rw [hlm] at h4
    simpa using h4
  have ha := asBs
  have sq := h4'.keep' (w' := ((((((((((w1.setCell ⟨w.heap.size, 0, none⟩ (.bool false)).setCell ⟨w.heap.size, 1, none⟩ (.bool cw)).setCell ⟨w.heap.size, 2, none⟩ (.bool cv)).setCell ⟨w.heap.size, 3, none⟩ (.int .u8 0)).setCell ⟨w.heap.size, 4, none⟩ (.nilIface)).setCell ⟨w.heap.size, 5, none⟩ (fl (fb (r).1))).setCell ⟨w.heap.size, 6, none⟩ (fl (fb (r).2.1))).setCell ⟨w.heap.size, 7, none⟩ (fl (fb (r).2.2.1))).setCell ⟨w.heap.size, 8, none⟩ (fl (fb (r).2.2.2))).setCell ⟨w.heap.size, 9, none⟩ (.slice A0 m c0))) (fun b g1 g2 g3 => hkp b g1)
  go_wp2
  go_ret
  refine ⟨w.heap.size, rfl, ?_, hb9⟩
  rw [hr]
  exact ⟨cv, cw, _, Nat.le_refl _, hlt, he, sq.wide (by omega) (by rw [hsz]; exact Nat.le_refl _)⟩
end Go.Proofs.YtlchljkmipejdaaGreat
