import Derived.Test.YtlchljkmipejdaaGreatMs
set_option linter.unusedSimpArgs false
set_option linter.unusedVariables false
namespace Go.Proofs.YtlchljkmipejdaaGreat
open Go.RowKit PF JR
/-- block b, from number lo up to hi, holds a series -/
def SerP (closed : Bool) (l : List (Int × Int)) (r0 r1 r2 r3 : Nat) (T : TypeId) (lo hi b : Nat) (w : World) : Prop :=
  ∃ (cv cw : Bool) (v' : Value), lo ≤ b ∧ b < hi ∧ w.heap[b]? = some (.cells #[.bool closed, .bool cw, .bool cv, .int .u8 0, .nilIface, fl r0, fl r1, fl r2, fl r3, v'] T (0, 0)) ∧ SlQ lo hi w v' l
def RgP (l : List (Int × Int)) (r0 r1 r2 r3 : Nat) (w : World) (e : Ending) (w' : World) : Prop :=
  ∃ b : Nat, e = .returned (.iface 107 (.pointer (some ⟨b, 0, none⟩))) ∧ SerP true l r0 r1 r2 r3 104 w.heap.size w'.heap.size b w' ∧ Below w.heap.size w w'
def LnP (l : List (Int × Int)) (r0 r1 r2 r3 : Nat) (w : World) (e : Ending) (w' : World) : Prop :=
  ∃ b : Nat, e = .returned (.pointer (some ⟨b, 0, none⟩)) ∧ SerP false l r0 r1 r2 r3 106 w.heap.size w'.heap.size b w' ∧ Below w.heap.size w w'

set_option maxRecDepth 100000 in
set_option maxHeartbeats 1000000 in
theorem newRing_c (l : List (Int × Int)) (r0 r1 r2 r3 : Nat) (v o : Value) (w : World)
    (ms : Calls Tryz.prog 53 #[v, .bool true, .bool true, o] w (MsP true l r0 r1 r2 r3 w)) :
    Calls Tryz.prog 57 #[v, o] w (RgP l r0 r1 r2 r3 w) := by
  go_enter Tryz.func57, Tryz.ntmps57
  go_wp2_with (go_at_call 53; refine JR.StopM.out ?_)
  refine ⟨?_⟩
  refine ms.mono ?_
  rintro e w1 ⟨cv, cw, v', rfl, sq, hb⟩
  obtain ⟨A0, c0, rfl⟩ : ∃ A c, v' = .slice A l.length c := sq.elim fun A h => h.elim fun c h => ⟨A, c, h.1⟩
  go_wp2
  go_ret
  have hn := heap_alloc_new w1 (.cells #[.bool true, .bool cw, .bool cv, .int .u8 0, .nilIface, fl r0, fl r1, fl r2, fl r3, .slice A0 l.length c0] 104)
  refine ⟨_, rfl, ⟨cv, cw, _, hb.size, by simp, hn, ?_⟩, hb.alloc hb.size _⟩
  obtain ⟨A, c, hv, hk⟩ := sq.keep (fun k _ h2 => Below.heap_alloc w1 (.cells #[.bool true, .bool cw, .bool cv, .int .u8 0, .nilIface, fl r0, fl r1, fl r2, fl r3, .slice A0 l.length c0] 104) k h2)
  refine ⟨A, c, hv, fun k p hp => ?_⟩
  obtain ⟨b, h1, h2, h3, h4⟩ := hk k p hp
  exact ⟨b, h1, h2, by simp; omega, h4⟩

set_option maxRecDepth 100000 in
set_option maxHeartbeats 1000000 in
theorem newLine_c (l : List (Int × Int)) (r0 r1 r2 r3 : Nat) (v o : Value) (w : World)
    (ms : ∀ u, Below w.heap.size w u → Calls Tryz.prog 53 #[v, .bool true, .bool false, o] u (MsP false l r0 r1 r2 r3 u)) :
    Calls Tryz.prog 48 #[v, o] w (LnP l r0 r1 r2 r3 w) := by
  have st0 := (Blk.nil w).push rfl #[.bool false, .bool false, .bool false, .int .u8 0, .nilIface, fl 0, fl 0, fl 0, fl 0, .slice none 0 0] 106
  go_enter Tryz.func48, Tryz.ntmps48
  go_wp2_with (go_at_call 53; refine JR.StopM.out ?_)
  refine ⟨?_⟩
  refine (ms _ st0.hb).mono ?_
  rintro e w1 ⟨cv, cw, v', rfl, sq, hb⟩
  obtain ⟨A0, c0, rfl⟩ : ∃ A c, v' = .slice A l.length c := sq.elim fun A h => h.elim fun c h => ⟨A, c, h.1⟩
  have st1 := st0.ext hb
  have x0 := st1.cell 0 rfl 0
  have x1 := st1.cell 0 rfl 1
  have x2 := st1.cell 0 rfl 2
  have x3 := st1.cell 0 rfl 3
  have x4 := st1.cell 0 rfl 4
  have x5 := st1.cell 0 rfl 5
  have x6 := st1.cell 0 rfl 6
  have x7 := st1.cell 0 rfl 7
  have x8 := st1.cell 0 rfl 8
  have x9 := st1.cell 0 rfl 9
  have xf := fun o => st1.frozen 0 rfl o
  simp only [List.getElem?_toArray, List.getElem?_cons_zero, List.getElem?_cons_succ] at x0 x1 x2 x3 x4 x5 x6 x7 x8 x9
  go_wp2
  go_ret
  have p0 := st1.put (o := 0) (v := .bool false) 0 rfl ⟨.inl rfl, trivial⟩ (Nat.le_refl _)
  have p1 := p0.put (o := 1) (v := .bool cw) 0 rfl ⟨.inl rfl, trivial⟩ (Nat.le_refl _)
  have p2 := p1.put (o := 2) (v := .bool cv) 0 rfl ⟨.inl rfl, trivial⟩ (Nat.le_refl _)
  have p3 := p2.put (o := 3) (v := .int .u8 0) 0 rfl ⟨.inl rfl, trivial⟩ (Nat.le_refl _)
  have p4 := p3.put (o := 4) (v := .nilIface) 0 rfl ⟨.inl rfl, trivial⟩ (Nat.le_refl _)
  have p5 := p4.put (o := 5) (v := fl r0) 0 rfl ⟨.inl rfl, trivial⟩ (Nat.le_refl _)
  have p6 := p5.put (o := 6) (v := fl r1) 0 rfl ⟨.inl rfl, trivial⟩ (Nat.le_refl _)
  have p7 := p6.put (o := 7) (v := fl r2) 0 rfl ⟨.inl rfl, trivial⟩ (Nat.le_refl _)
  have p8 := p7.put (o := 8) (v := fl r3) 0 rfl ⟨.inl rfl, trivial⟩ (Nat.le_refl _)
  have p9 := p8.put (o := 9) (v := .slice A0 l.length c0) 0 rfl ⟨.inl rfl, trivial⟩ (Nat.le_refl _)
  have st2 := p9
  have he := p9.known 0 _ rfl
  have hlt := lt_of_some he
  simp only [List.setIfInBounds_toArray, List.set_cons_zero, List.set_cons_succ] at he
  clear p0 p1 p2 p3 p4 p5 p6 p7 p8 p9 x0 x1 x2 x3 x4 x5 x6 x7 x8 x9 xf
  have hsz : (((((((((((w1.setCell ⟨w.heap.size, 0, none⟩ (.bool false)).setCell ⟨w.heap.size, 1, none⟩ (.bool cw)).setCell ⟨w.heap.size, 2, none⟩ (.bool cv)).setCell ⟨w.heap.size, 3, none⟩ (.int .u8 0)).setCell ⟨w.heap.size, 4, none⟩ (.nilIface)).setCell ⟨w.heap.size, 5, none⟩ (fl r0)).setCell ⟨w.heap.size, 6, none⟩ (fl r1)).setCell ⟨w.heap.size, 7, none⟩ (fl r2)).setCell ⟨w.heap.size, 8, none⟩ (fl r3)).setCell ⟨w.heap.size, 9, none⟩ (.slice A0 l.length c0))).heap.size = w1.heap.size := by simp
  have hk : ∀ k, (w.alloc (.cells #[.bool false, .bool false, .bool false, .int .u8 0, .nilIface, fl 0, fl 0, fl 0, fl 0, .slice none 0 0] 106)).heap.size ≤ k → k < w1.heap.size → (((((((((((w1.setCell ⟨w.heap.size, 0, none⟩ (.bool false)).setCell ⟨w.heap.size, 1, none⟩ (.bool cw)).setCell ⟨w.heap.size, 2, none⟩ (.bool cv)).setCell ⟨w.heap.size, 3, none⟩ (.int .u8 0)).setCell ⟨w.heap.size, 4, none⟩ (.nilIface)).setCell ⟨w.heap.size, 5, none⟩ (fl r0)).setCell ⟨w.heap.size, 6, none⟩ (fl r1)).setCell ⟨w.heap.size, 7, none⟩ (fl r2)).setCell ⟨w.heap.size, 8, none⟩ (fl r3)).setCell ⟨w.heap.size, 9, none⟩ (.slice A0 l.length c0))).heap[k]? = w1.heap[k]? := by
    intro k h1 _
    simp at h1
    iterate 10 refine (Below.heap_setCell _ _ _ _ (by show k ≠ w.heap.size; omega)).trans ?_
    rfl
  have sq2 := sq.keep hk
  refine ⟨_, rfl, ⟨cv, cw, _, Nat.le_refl _, hlt, he, ?_⟩, st2.hb⟩
  obtain ⟨A, c, hv, hq⟩ := sq2
  refine ⟨A, c, hv, fun k p hp => ?_⟩
  obtain ⟨b, h1, h2, h3, h4⟩ := hq k p hp
  exact ⟨b, h1, by simp at h2; omega, by rw [hsz]; exact h3, h4⟩
end Go.Proofs.YtlchljkmipejdaaGreat
