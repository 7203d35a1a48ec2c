import Derived.Test.YtkldjceopjfjhaaMk
set_option linter.unusedSimpArgs false
set_option linter.unusedVariables false
/-! Rings and lines with an index. -/
namespace Go.Proofs.Ytkldjceopjfjhaa
open Go.RowKit PF JR
/-- block b, from number lo up to hi, holds a series of these points, with an index of kind K -/
def SkP (K : Nat) (closed : Bool) (l : List (Int × Int)) (T : TypeId) (lo hi b : Nat) (w : World) : Prop :=
  ∃ (ix v' : Value), IxV ix ∧ lo ≤ b ∧ b < hi ∧ w.heap[b]? = some (.cells (serC K closed l ix v') T (0, 0)) ∧ SlQ lo hi w v' l
theorem SkP.keep {K : Nat} {closed : Bool} {l : List (Int × Int)} {T : TypeId} {lo hi b : Nat} {w w' : World} (H : SkP K closed l T lo hi b w)
    (hk : ∀ k, lo ≤ k → k < hi → k < w.heap.size → w'.heap[k]? = w.heap[k]?) : SkP K closed l T lo hi b w' := by
  obtain ⟨ix, v', h0, h1, h2, h3, h4⟩ := H
  exact ⟨ix, v', h0, h1, h2, (hk b h1 h2 (lt_of_some h3)).trans h3, h4.keep' hk⟩
theorem SkP.below {K : Nat} {closed : Bool} {l : List (Int × Int)} {T : TypeId} {lo hi b : Nat} {w w' : World} (H : SkP K closed l T lo hi b w) (hb : Below w.heap.size w w') : SkP K closed l T lo hi b w' :=
  H.keep fun k _ _ h => hb.block k h
theorem SkP.wide {K : Nat} {closed : Bool} {l : List (Int × Int)} {T : TypeId} {lo hi lo' hi' b : Nat} {w : World} (H : SkP K closed l T lo hi b w) (h1 : lo' ≤ lo) (h2 : hi ≤ hi') : SkP K closed l T lo' hi' b w := by
  obtain ⟨ix, v', g0, g1, g2, g3, g4⟩ := H
  exact ⟨ix, v', g0, by omega, by omega, g3, g4.wide h1 h2⟩
def RkP (K : Nat) (l : List (Int × Int)) (w : World) (e : Ending) (w' : World) : Prop :=
  ∃ b : Nat, e = .returned (.iface 97 (.pointer (some ⟨b, 0, none⟩))) ∧ SkP K true l 93 w.heap.size w'.heap.size b w' ∧ Below w.heap.size w w'
def LkP (K : Nat) (l : List (Int × Int)) (w : World) (e : Ending) (w' : World) : Prop :=
  ∃ b : Nat, e = .returned (.pointer (some ⟨b, 0, none⟩)) ∧ SkP K false l 95 w.heap.size w'.heap.size b w' ∧ Below w.heap.size w w'

set_option maxRecDepth 100000 in
set_option maxHeartbeats 1000000 in
theorem newRingK_c (K : Nat) (l : List (Int × Int)) (v o : Value) (w : World)
    (ms : Calls Try.prog 44 #[v, .bool true, .bool true, o] w (MkP K true l w)) :
    Calls Try.prog 43 #[v, o] w (RkP K l w) := by
  go_enter Try.func43, Try.ntmps43
  go_wp2_with (go_at_call 44; refine JR.StopM.out ?_)
  refine ⟨?_⟩
  refine ms.mono ?_
  rintro e w1 ⟨ix, v', hix, rfl, sq, hb⟩
  unfold serC
  obtain ⟨A0, c0, rfl⟩ : ∃ A c, v' = .slice A l.length c := sq.elim fun A h => h.elim fun c h => ⟨A, c, h.1⟩
  have hn := heap_alloc_new w1 (.cells (serC K true l ix (.slice A0 l.length c0)) 93)
  have hs := hb.alloc hb.size (.cells (serC K true l ix (.slice A0 l.length c0)) 93)
  have hq : SkP K true l 93 w.heap.size (w1.alloc (.cells (serC K true l ix (.slice A0 l.length c0)) 93)).heap.size w1.heap.size (w1.alloc (.cells (serC K true l ix (.slice A0 l.length c0)) 93)) := by
    refine ⟨ix, _, hix, hb.size, by simp, hn, ?_⟩
    obtain ⟨A, c, hv, hk⟩ := sq.keep (fun k _ h2 => Below.heap_alloc w1 (.cells (serC K true l ix (.slice A0 l.length c0)) 93) k h2)
    refine ⟨A, c, hv, fun k p hp => ?_⟩
    obtain ⟨b, h1, h2, h3, h4⟩ := hk k p hp
    exact ⟨b, h1, h2, by simp; omega, h4⟩
  unfold serC at hq hs
  clear hn sq hb
  generalize decide (0 < cws l l.length) = cw at *
  rcases hix with rfl | ⟨y, rfl⟩
  · go_wp2
    go_ret
    exact ⟨_, rfl, hq, hs⟩
  · go_wp2
    go_ret
    exact ⟨_, rfl, hq, hs⟩

set_option maxRecDepth 100000 in
set_option maxHeartbeats 1000000 in
theorem newLineK_c (K : Nat) (l : List (Int × Int)) (v o : Value) (w : World)
    (ms : ∀ u, Below w.heap.size w u → Calls Try.prog 44 #[v, .bool true, .bool false, o] u (MkP K false l u)) :
    Calls Try.prog 41 #[v, o] w (LkP K l w) := by
  have st0 := (Blk.nil w).push rfl #[.bool false, .bool false, .bool false, .int .u8 0, .nilIface, fl 0, fl 0, fl 0, fl 0, .slice none 0 0] 95
  go_enter Try.func41, Try.ntmps41
  go_wp2_with (go_at_call 44; refine JR.StopM.out ?_)
  refine ⟨?_⟩
  refine (ms _ st0.hb).mono ?_
  rintro e w1 ⟨ix, v', hix, rfl, sq, hb⟩
  unfold serC
  generalize e1 : (!(cvs l l.length).1) = cv at *
  generalize e2 : decide (0 < cws l l.length) = cw at *
  generalize e3 : fb (box l).1 = R0 at *
  generalize e4 : fb (box l).2.1 = R1 at *
  generalize e5 : fb (box l).2.2.1 = R2 at *
  generalize e6 : fb (box l).2.2.2 = R3 at *
  obtain ⟨A0, c0, rfl⟩ : ∃ A c, v' = .slice A l.length c := sq.elim fun A h => h.elim fun c h => ⟨A, c, h.1⟩
  rcases hix with rfl | ⟨y, rfl⟩
  · have st1 := st0.ext hb
    have x0 := st1.cell 0 rfl 0
    have x1 := st1.cell 0 rfl 1
    have x2 := st1.cell 0 rfl 2
    have x3 := st1.cell 0 rfl 3
    have x4 := st1.cell 0 rfl 4
    have x5 := st1.cell 0 rfl 5
    have x6 := st1.cell 0 rfl 6
    have x7 := st1.cell 0 rfl 7
    have x8 := st1.cell 0 rfl 8
    have x9 := st1.cell 0 rfl 9
    have xf := fun o => st1.frozen 0 rfl o
    simp only [List.getElem?_toArray, List.getElem?_cons_zero, List.getElem?_cons_succ] at x0 x1 x2 x3 x4 x5 x6 x7 x8 x9
    go_wp2
    go_ret
    have p0 := st1.put (o := 0) (v := .bool false) 0 rfl ⟨.inl rfl, trivial⟩ (Nat.le_refl _)
    have p1 := p0.put (o := 1) (v := .bool cw) 0 rfl ⟨.inl rfl, trivial⟩ (Nat.le_refl _)
    have p2 := p1.put (o := 2) (v := .bool cv) 0 rfl ⟨.inl rfl, trivial⟩ (Nat.le_refl _)
    have p3 := p2.put (o := 3) (v := .int .u8 K) 0 rfl ⟨.inl rfl, trivial⟩ (Nat.le_refl _)
    have p4 := p3.put (o := 4) (v := .nilIface) 0 rfl ⟨.inl rfl, trivial⟩ (Nat.le_refl _)
    have p5 := p4.put (o := 5) (v := fl R0) 0 rfl ⟨.inl rfl, trivial⟩ (Nat.le_refl _)
    have p6 := p5.put (o := 6) (v := fl R1) 0 rfl ⟨.inl rfl, trivial⟩ (Nat.le_refl _)
    have p7 := p6.put (o := 7) (v := fl R2) 0 rfl ⟨.inl rfl, trivial⟩ (Nat.le_refl _)
    have p8 := p7.put (o := 8) (v := fl R3) 0 rfl ⟨.inl rfl, trivial⟩ (Nat.le_refl _)
    have p9 := p8.put (o := 9) (v := .slice A0 l.length c0) 0 rfl ⟨.inl rfl, trivial⟩ (Nat.le_refl _)
    have st2 := p9
    have he := p9.known 0 _ rfl
    have hlt := lt_of_some he
    simp only [List.setIfInBounds_toArray, List.set_cons_zero, List.set_cons_succ] at he
    clear p0 p1 p2 p3 p4 p5 p6 p7 p8 p9 x0 x1 x2 x3 x4 x5 x6 x7 x8 x9 xf
    have hsz : (((((((((((w1.setCell ⟨w.heap.size, 0, none⟩ (.bool false)).setCell ⟨w.heap.size, 1, none⟩ (.bool cw)).setCell ⟨w.heap.size, 2, none⟩ (.bool cv)).setCell ⟨w.heap.size, 3, none⟩ (.int .u8 K)).setCell ⟨w.heap.size, 4, none⟩ (.nilIface)).setCell ⟨w.heap.size, 5, none⟩ (fl R0)).setCell ⟨w.heap.size, 6, none⟩ (fl R1)).setCell ⟨w.heap.size, 7, none⟩ (fl R2)).setCell ⟨w.heap.size, 8, none⟩ (fl R3)).setCell ⟨w.heap.size, 9, none⟩ (.slice A0 l.length c0))).heap.size = w1.heap.size := by simp
    have hk : ∀ k, (w.alloc (.cells #[.bool false, .bool false, .bool false, .int .u8 0, .nilIface, fl 0, fl 0, fl 0, fl 0, .slice none 0 0] 95)).heap.size ≤ k → k < w1.heap.size → (((((((((((w1.setCell ⟨w.heap.size, 0, none⟩ (.bool false)).setCell ⟨w.heap.size, 1, none⟩ (.bool cw)).setCell ⟨w.heap.size, 2, none⟩ (.bool cv)).setCell ⟨w.heap.size, 3, none⟩ (.int .u8 K)).setCell ⟨w.heap.size, 4, none⟩ (.nilIface)).setCell ⟨w.heap.size, 5, none⟩ (fl R0)).setCell ⟨w.heap.size, 6, none⟩ (fl R1)).setCell ⟨w.heap.size, 7, none⟩ (fl R2)).setCell ⟨w.heap.size, 8, none⟩ (fl R3)).setCell ⟨w.heap.size, 9, none⟩ (.slice A0 l.length c0))).heap[k]? = w1.heap[k]? := by
      intro k h1 _
      simp at h1
      iterate 10 refine (Below.heap_setCell _ _ _ _ (by show k ≠ w.heap.size; omega)).trans ?_
      rfl
    have sq2 := sq.keep hk
    refine ⟨_, rfl, ⟨.nilIface, _, .inl rfl, Nat.le_refl _, hlt, by subst e1 e2 e3 e4 e5 e6; exact he, ?_⟩, st2.hb⟩
    obtain ⟨A, c, hv, hq⟩ := sq2
    refine ⟨A, c, hv, fun k p hp => ?_⟩
    obtain ⟨b, h1, h2, h3, h4⟩ := hq k p hp
    exact ⟨b, h1, by simp at h2; omega, by rw [hsz]; exact h3, h4⟩
  · have st1 := st0.ext hb
    have x0 := st1.cell 0 rfl 0
    have x1 := st1.cell 0 rfl 1
    have x2 := st1.cell 0 rfl 2
    have x3 := st1.cell 0 rfl 3
    have x4 := st1.cell 0 rfl 4
    have x5 := st1.cell 0 rfl 5
    have x6 := st1.cell 0 rfl 6
    have x7 := st1.cell 0 rfl 7
    have x8 := st1.cell 0 rfl 8
    have x9 := st1.cell 0 rfl 9
    have xf := fun o => st1.frozen 0 rfl o
    simp only [List.getElem?_toArray, List.getElem?_cons_zero, List.getElem?_cons_succ] at x0 x1 x2 x3 x4 x5 x6 x7 x8 x9
    go_wp2
    go_ret
    have p0 := st1.put (o := 0) (v := .bool false) 0 rfl ⟨.inl rfl, trivial⟩ (Nat.le_refl _)
    have p1 := p0.put (o := 1) (v := .bool cw) 0 rfl ⟨.inl rfl, trivial⟩ (Nat.le_refl _)
    have p2 := p1.put (o := 2) (v := .bool cv) 0 rfl ⟨.inl rfl, trivial⟩ (Nat.le_refl _)
    have p3 := p2.put (o := 3) (v := .int .u8 K) 0 rfl ⟨.inl rfl, trivial⟩ (Nat.le_refl _)
    have p4 := p3.put (o := 4) (v := .iface 111 y) 0 rfl ⟨.inl rfl, trivial⟩ (Nat.le_refl _)
    have p5 := p4.put (o := 5) (v := fl R0) 0 rfl ⟨.inl rfl, trivial⟩ (Nat.le_refl _)
    have p6 := p5.put (o := 6) (v := fl R1) 0 rfl ⟨.inl rfl, trivial⟩ (Nat.le_refl _)
    have p7 := p6.put (o := 7) (v := fl R2) 0 rfl ⟨.inl rfl, trivial⟩ (Nat.le_refl _)
    have p8 := p7.put (o := 8) (v := fl R3) 0 rfl ⟨.inl rfl, trivial⟩ (Nat.le_refl _)
    have p9 := p8.put (o := 9) (v := .slice A0 l.length c0) 0 rfl ⟨.inl rfl, trivial⟩ (Nat.le_refl _)
    have st2 := p9
    have he := p9.known 0 _ rfl
    have hlt := lt_of_some he
    simp only [List.setIfInBounds_toArray, List.set_cons_zero, List.set_cons_succ] at he
    clear p0 p1 p2 p3 p4 p5 p6 p7 p8 p9 x0 x1 x2 x3 x4 x5 x6 x7 x8 x9 xf
    have hsz : (((((((((((w1.setCell ⟨w.heap.size, 0, none⟩ (.bool false)).setCell ⟨w.heap.size, 1, none⟩ (.bool cw)).setCell ⟨w.heap.size, 2, none⟩ (.bool cv)).setCell ⟨w.heap.size, 3, none⟩ (.int .u8 K)).setCell ⟨w.heap.size, 4, none⟩ (.iface 111 y)).setCell ⟨w.heap.size, 5, none⟩ (fl R0)).setCell ⟨w.heap.size, 6, none⟩ (fl R1)).setCell ⟨w.heap.size, 7, none⟩ (fl R2)).setCell ⟨w.heap.size, 8, none⟩ (fl R3)).setCell ⟨w.heap.size, 9, none⟩ (.slice A0 l.length c0))).heap.size = w1.heap.size := by simp
    have hk : ∀ k, (w.alloc (.cells #[.bool false, .bool false, .bool false, .int .u8 0, .nilIface, fl 0, fl 0, fl 0, fl 0, .slice none 0 0] 95)).heap.size ≤ k → k < w1.heap.size → (((((((((((w1.setCell ⟨w.heap.size, 0, none⟩ (.bool false)).setCell ⟨w.heap.size, 1, none⟩ (.bool cw)).setCell ⟨w.heap.size, 2, none⟩ (.bool cv)).setCell ⟨w.heap.size, 3, none⟩ (.int .u8 K)).setCell ⟨w.heap.size, 4, none⟩ (.iface 111 y)).setCell ⟨w.heap.size, 5, none⟩ (fl R0)).setCell ⟨w.heap.size, 6, none⟩ (fl R1)).setCell ⟨w.heap.size, 7, none⟩ (fl R2)).setCell ⟨w.heap.size, 8, none⟩ (fl R3)).setCell ⟨w.heap.size, 9, none⟩ (.slice A0 l.length c0))).heap[k]? = w1.heap[k]? := by
      intro k h1 _
      simp at h1
      iterate 10 refine (Below.heap_setCell _ _ _ _ (by show k ≠ w.heap.size; omega)).trans ?_
      rfl
    have sq2 := sq.keep hk
    refine ⟨_, rfl, ⟨.iface 111 y, _, .inr ⟨y, rfl⟩, Nat.le_refl _, hlt, by subst e1 e2 e3 e4 e5 e6; exact he, ?_⟩, st2.hb⟩
    obtain ⟨A, c, hv, hq⟩ := sq2
    refine ⟨A, c, hv, fun k p hp => ?_⟩
    obtain ⟨b, h1, h2, h3, h4⟩ := hq k p hp
    exact ⟨b, h1, by simp at h2; omega, by rw [hsz]; exact h3, h4⟩
end Go.Proofs.Ytkldjceopjfjhaa
