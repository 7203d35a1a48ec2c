import Derived.Test.YtdhljiediafeoaaEm
set_option linter.unusedSimpArgs false
set_option linter.unusedVariables false
/-! Rings and lines with an index, exactly. -/
namespace Go.Proofs.Ytdhljiediafeoaa
open Go.RowKit PF JR
/-- block b, from number lo up to hi, holds a series of these points, with an index of kind K -/
def SkP (K : Nat) (closed : Bool) (l : List (Int × Int)) (T : TypeId) (lo hi b : Nat) (w : World) : Prop :=
  ∃ (ix v' : Value), IxV K l (nSeg closed l) lo hi w ix ∧ lo ≤ b ∧ b < hi ∧ w.heap[b]? = some (.cells (serC K closed l ix v') T (0, 0)) ∧ SlQ lo hi w v' l
theorem SkP.keep {K : Nat} {closed : Bool} {l : List (Int × Int)} {T : TypeId} {lo hi b : Nat} {w w' : World} (H : SkP K closed l T lo hi b w)
    (hk : ∀ k, lo ≤ k → k < hi → k < w.heap.size → w'.heap[k]? = w.heap[k]?) : SkP K closed l T lo hi b w' := by
  obtain ⟨ix, v', h0, h1, h2, h3, h4⟩ := H
  exact ⟨ix, v', h0.keep hk, h1, h2, (hk b h1 h2 (lt_of_some h3)).trans h3, h4.keep' hk⟩
theorem SkP.below {K : Nat} {closed : Bool} {l : List (Int × Int)} {T : TypeId} {lo hi b : Nat} {w w' : World} (H : SkP K closed l T lo hi b w) (hb : Below w.heap.size w w') : SkP K closed l T lo hi b w' :=
  H.keep fun k _ _ h => hb.block k h
theorem SkP.wide {K : Nat} {closed : Bool} {l : List (Int × Int)} {T : TypeId} {lo hi lo' hi' b : Nat} {w : World} (H : SkP K closed l T lo hi b w) (h1 : lo' ≤ lo) (h2 : hi ≤ hi') : SkP K closed l T lo' hi' b w := by
  obtain ⟨ix, v', g0, g1, g2, g3, g4⟩ := H
  exact ⟨ix, v', g0.wide h1 h2, by omega, by omega, g3, g4.wide h1 h2⟩
theorem set10 {u : World} {b k o0 o1 o2 o3 o4 o5 o6 o7 o8 o9 : Nat} {v0 v1 v2 v3 v4 v5 v6 v7 v8 v9 : Value} (h : k ≠ b) :
    ((((((((((u.setCell ⟨b, o0, none⟩ v0).setCell ⟨b, o1, none⟩ v1).setCell ⟨b, o2, none⟩ v2).setCell ⟨b, o3, none⟩ v3).setCell ⟨b, o4, none⟩ v4).setCell ⟨b, o5, none⟩ v5).setCell ⟨b, o6, none⟩ v6).setCell ⟨b, o7, none⟩ v7).setCell ⟨b, o8, none⟩ v8).setCell ⟨b, o9, none⟩ v9).heap[k]? = u.heap[k]? := by
  iterate 10 refine (Below.heap_setCell _ _ _ _ h).trans ?_
  rfl
def RkP (K : Nat) (l : List (Int × Int)) (w : World) (e : Ending) (w' : World) : Prop :=
  ∃ b : Nat, e = .returned (.iface 90 (.pointer (some ⟨b, 0, none⟩))) ∧ SkP K true l 86 w.heap.size w'.heap.size b w' ∧ Below w.heap.size w w'
def LkP (K : Nat) (l : List (Int × Int)) (w : World) (e : Ending) (w' : World) : Prop :=
  ∃ b : Nat, e = .returned (.pointer (some ⟨b, 0, none⟩)) ∧ SkP K false l 88 w.heap.size w'.heap.size b w' ∧ Below w.heap.size w w'

set_option maxRecDepth 100000 in
set_option maxHeartbeats 1000000 in
theorem newRingK_c (K : Nat) (l : List (Int × Int)) (v o : Value) (w : World)
    (ms : Calls Try.prog 37 #[v, .bool true, .bool true, o] w (MkP K true l w)) :
    Calls Try.prog 36 #[v, o] w (RkP K l w) := by
  go_enter Try.func36, Try.ntmps36
  go_wp2_with (go_at_call 37; refine JR.StopM.out ?_)
  refine ⟨?_⟩
  refine ms.mono ?_
  rintro e w1 ⟨ix, v', hix, rfl, sq, hb⟩
  unfold serC
  obtain ⟨A0, c0, rfl⟩ : ∃ A c, v' = .slice A l.length c := sq.elim fun A h => h.elim fun c h => ⟨A, c, h.1⟩
  have hn := heap_alloc_new w1 (.cells (serC K true l ix (.slice A0 l.length c0)) 86)
  have hs := hb.alloc hb.size (.cells (serC K true l ix (.slice A0 l.length c0)) 86)
  have hq : SkP K true l 86 w.heap.size (w1.alloc (.cells (serC K true l ix (.slice A0 l.length c0)) 86)).heap.size w1.heap.size (w1.alloc (.cells (serC K true l ix (.slice A0 l.length c0)) 86)) := by
    refine ⟨ix, _, (hix.keep fun k _ _ h => Below.heap_alloc w1 _ k h).wide (Nat.le_refl _) (by simp), hb.size, by simp, hn, ?_⟩
    obtain ⟨A, c, hv, hk⟩ := sq.keep (fun k _ h2 => Below.heap_alloc w1 (.cells (serC K true l ix (.slice A0 l.length c0)) 86) k h2)
    refine ⟨A, c, hv, fun k p hp => ?_⟩
    obtain ⟨b, h1, h2, h3, h4⟩ := hk k p hp
    exact ⟨b, h1, h2, by simp; omega, h4⟩
  unfold serC at hq hs
  clear hn sq hb
  generalize ppW true l = cw at *
  rcases hix with ⟨-, rfl⟩ | ⟨-, g, rfl, -⟩
  · go_wp2
    go_ret
    exact ⟨_, rfl, hq, hs⟩
  · go_wp2
    go_ret
    exact ⟨_, rfl, hq, hs⟩

set_option maxRecDepth 100000 in
set_option maxHeartbeats 1000000 in
theorem newLineK_c (K : Nat) (l : List (Int × Int)) (v o : Value) (w : World)
    (ms : ∀ u, Below w.heap.size w u → Calls Try.prog 37 #[v, .bool true, .bool false, o] u (MkP K false l u)) :
    Calls Try.prog 34 #[v, o] w (LkP K l w) := by
  have st0 := (Blk.nil w).push rfl #[.bool false, .bool false, .bool false, .int .u8 0, .nilIface, fl 0, fl 0, fl 0, fl 0, .slice none 0 0] 88
  go_enter Try.func34, Try.ntmps34
  go_wp2_with (go_at_call 37; refine JR.StopM.out ?_)
  refine ⟨?_⟩
  refine (ms _ st0.hb).mono ?_
  rintro e w1 ⟨ix, v', hix, rfl, sq, hb⟩
  unfold serC
  generalize e1 : ppV false l = cv at *
  generalize e2 : ppW false l = cw at *
  generalize e3 : fb (ppB false l).1 = R0 at *
  generalize e4 : fb (ppB false l).2.1 = R1 at *
  generalize e5 : fb (ppB false l).2.2.1 = R2 at *
  generalize e6 : fb (ppB false l).2.2.2 = R3 at *
  obtain ⟨A0, c0, rfl⟩ : ∃ A c, v' = .slice A l.length c := sq.elim fun A h => h.elim fun c h => ⟨A, c, h.1⟩
  have hix1 := hix
  have hz1 : w.heap.size + 1 ≤ w1.heap.size := by have := hb.size; simpa using this
  have hfin : ∀ u : World, (∀ k, w.heap.size + 1 ≤ k → u.heap[k]? = w1.heap[k]?) → w1.heap.size ≤ u.heap.size → IxV K l (nSeg false l) w.heap.size u.heap.size u ix := fun u h1 h2 => (hix1.keep fun k g1 _ _ => h1 k (by simp at g1; omega)).wide (by simp) h2
  clear hix1
  rcases hix with ⟨-, rfl⟩ | ⟨-, g, rfl, -⟩
  · have st1 := st0.ext hb
    have x0 := st1.cell 0 rfl 0
    have x1 := st1.cell 0 rfl 1
    have x2 := st1.cell 0 rfl 2
    have x3 := st1.cell 0 rfl 3
    have x4 := st1.cell 0 rfl 4
    have x5 := st1.cell 0 rfl 5
    have x6 := st1.cell 0 rfl 6
    have x7 := st1.cell 0 rfl 7
    have x8 := st1.cell 0 rfl 8
    have x9 := st1.cell 0 rfl 9
    have xf := fun o => st1.frozen 0 rfl o
    simp only [List.getElem?_toArray, List.getElem?_cons_zero, List.getElem?_cons_succ] at x0 x1 x2 x3 x4 x5 x6 x7 x8 x9
    go_wp2
    go_ret
    have p0 := st1.put (o := 0) (v := .bool false) 0 rfl ⟨.inl rfl, trivial⟩ (Nat.le_refl _)
    have p1 := p0.put (o := 1) (v := .bool cw) 0 rfl ⟨.inl rfl, trivial⟩ (Nat.le_refl _)
    have p2 := p1.put (o := 2) (v := .bool cv) 0 rfl ⟨.inl rfl, trivial⟩ (Nat.le_refl _)
    have p3 := p2.put (o := 3) (v := .int .u8 K) 0 rfl ⟨.inl rfl, trivial⟩ (Nat.le_refl _)
    have p4 := p3.put (o := 4) (v := .nilIface) 0 rfl ⟨.inl rfl, trivial⟩ (Nat.le_refl _)
    have p5 := p4.put (o := 5) (v := fl R0) 0 rfl ⟨.inl rfl, trivial⟩ (Nat.le_refl _)
    have p6 := p5.put (o := 6) (v := fl R1) 0 rfl ⟨.inl rfl, trivial⟩ (Nat.le_refl _)
    have p7 := p6.put (o := 7) (v := fl R2) 0 rfl ⟨.inl rfl, trivial⟩ (Nat.le_refl _)
    have p8 := p7.put (o := 8) (v := fl R3) 0 rfl ⟨.inl rfl, trivial⟩ (Nat.le_refl _)
    have p9 := p8.put (o := 9) (v := .slice A0 l.length c0) 0 rfl ⟨.inl rfl, trivial⟩ (Nat.le_refl _)
    have st2 := p9
    have he := p9.known 0 _ rfl
    have hlt := lt_of_some he
    simp only [List.setIfInBounds_toArray, List.set_cons_zero, List.set_cons_succ] at he
    clear p0 p1 p2 p3 p4 p5 p6 p7 p8 p9 x0 x1 x2 x3 x4 x5 x6 x7 x8 x9 xf
    have hsz : (((((((((((w1.setCell ⟨w.heap.size, 0, none⟩ (.bool false)).setCell ⟨w.heap.size, 1, none⟩ (.bool cw)).setCell ⟨w.heap.size, 2, none⟩ (.bool cv)).setCell ⟨w.heap.size, 3, none⟩ (.int .u8 K)).setCell ⟨w.heap.size, 4, none⟩ (.nilIface)).setCell ⟨w.heap.size, 5, none⟩ (fl R0)).setCell ⟨w.heap.size, 6, none⟩ (fl R1)).setCell ⟨w.heap.size, 7, none⟩ (fl R2)).setCell ⟨w.heap.size, 8, none⟩ (fl R3)).setCell ⟨w.heap.size, 9, none⟩ (.slice A0 l.length c0))).heap.size = w1.heap.size := by simp
    have hk : ∀ k, (w.alloc (.cells #[.bool false, .bool false, .bool false, .int .u8 0, .nilIface, fl 0, fl 0, fl 0, fl 0, .slice none 0 0] 88)).heap.size ≤ k → k < w1.heap.size → (((((((((((w1.setCell ⟨w.heap.size, 0, none⟩ (.bool false)).setCell ⟨w.heap.size, 1, none⟩ (.bool cw)).setCell ⟨w.heap.size, 2, none⟩ (.bool cv)).setCell ⟨w.heap.size, 3, none⟩ (.int .u8 K)).setCell ⟨w.heap.size, 4, none⟩ (.nilIface)).setCell ⟨w.heap.size, 5, none⟩ (fl R0)).setCell ⟨w.heap.size, 6, none⟩ (fl R1)).setCell ⟨w.heap.size, 7, none⟩ (fl R2)).setCell ⟨w.heap.size, 8, none⟩ (fl R3)).setCell ⟨w.heap.size, 9, none⟩ (.slice A0 l.length c0))).heap[k]? = w1.heap[k]? := by
      intro k h1 _
      simp at h1
      iterate 10 refine (Below.heap_setCell _ _ _ _ (by show k ≠ w.heap.size; omega)).trans ?_
      rfl
    have sq2 := sq.keep hk
    refine ⟨_, rfl, ⟨.nilIface, _, (hfin _ (fun k hk' => set10 (by omega)) (by simp)), Nat.le_refl _, hlt, by subst e1 e2 e3 e4 e5 e6; exact he, ?_⟩, st2.hb⟩
    obtain ⟨A, c, hv, hq⟩ := sq2
    refine ⟨A, c, hv, fun k p hp => ?_⟩
    obtain ⟨b, h1, h2, h3, h4⟩ := hq k p hp
    exact ⟨b, h1, by simp at h2; omega, by rw [hsz]; exact h3, h4⟩
  · have st1 := st0.ext hb
    have x0 := st1.cell 0 rfl 0
    have x1 := st1.cell 0 rfl 1
    have x2 := st1.cell 0 rfl 2
    have x3 := st1.cell 0 rfl 3
    have x4 := st1.cell 0 rfl 4
    have x5 := st1.cell 0 rfl 5
    have x6 := st1.cell 0 rfl 6
    have x7 := st1.cell 0 rfl 7
    have x8 := st1.cell 0 rfl 8
    have x9 := st1.cell 0 rfl 9
    have xf := fun o => st1.frozen 0 rfl o
    simp only [List.getElem?_toArray, List.getElem?_cons_zero, List.getElem?_cons_succ] at x0 x1 x2 x3 x4 x5 x6 x7 x8 x9
    go_wp2
    go_ret
    have p0 := st1.put (o := 0) (v := .bool false) 0 rfl ⟨.inl rfl, trivial⟩ (Nat.le_refl _)
    have p1 := p0.put (o := 1) (v := .bool cw) 0 rfl ⟨.inl rfl, trivial⟩ (Nat.le_refl _)
    have p2 := p1.put (o := 2) (v := .bool cv) 0 rfl ⟨.inl rfl, trivial⟩ (Nat.le_refl _)
    have p3 := p2.put (o := 3) (v := .int .u8 K) 0 rfl ⟨.inl rfl, trivial⟩ (Nat.le_refl _)
    have p4 := p3.put (o := 4) (v := .iface 105 (.slice (some ⟨g, 0, none⟩) (ixby K l (nSeg false l)).length (ixby K l (nSeg false l)).length)) 0 rfl ⟨.inl rfl, trivial⟩ (Nat.le_refl _)
    have p5 := p4.put (o := 5) (v := fl R0) 0 rfl ⟨.inl rfl, trivial⟩ (Nat.le_refl _)
    have p6 := p5.put (o := 6) (v := fl R1) 0 rfl ⟨.inl rfl, trivial⟩ (Nat.le_refl _)
    have p7 := p6.put (o := 7) (v := fl R2) 0 rfl ⟨.inl rfl, trivial⟩ (Nat.le_refl _)
    have p8 := p7.put (o := 8) (v := fl R3) 0 rfl ⟨.inl rfl, trivial⟩ (Nat.le_refl _)
    have p9 := p8.put (o := 9) (v := .slice A0 l.length c0) 0 rfl ⟨.inl rfl, trivial⟩ (Nat.le_refl _)
    have st2 := p9
    have he := p9.known 0 _ rfl
    have hlt := lt_of_some he
    simp only [List.setIfInBounds_toArray, List.set_cons_zero, List.set_cons_succ] at he
    clear p0 p1 p2 p3 p4 p5 p6 p7 p8 p9 x0 x1 x2 x3 x4 x5 x6 x7 x8 x9 xf
    have hsz : (((((((((((w1.setCell ⟨w.heap.size, 0, none⟩ (.bool false)).setCell ⟨w.heap.size, 1, none⟩ (.bool cw)).setCell ⟨w.heap.size, 2, none⟩ (.bool cv)).setCell ⟨w.heap.size, 3, none⟩ (.int .u8 K)).setCell ⟨w.heap.size, 4, none⟩ (.iface 105 (.slice (some ⟨g, 0, none⟩) (ixby K l (nSeg false l)).length (ixby K l (nSeg false l)).length))).setCell ⟨w.heap.size, 5, none⟩ (fl R0)).setCell ⟨w.heap.size, 6, none⟩ (fl R1)).setCell ⟨w.heap.size, 7, none⟩ (fl R2)).setCell ⟨w.heap.size, 8, none⟩ (fl R3)).setCell ⟨w.heap.size, 9, none⟩ (.slice A0 l.length c0))).heap.size = w1.heap.size := by simp
    have hk : ∀ k, (w.alloc (.cells #[.bool false, .bool false, .bool false, .int .u8 0, .nilIface, fl 0, fl 0, fl 0, fl 0, .slice none 0 0] 88)).heap.size ≤ k → k < w1.heap.size → (((((((((((w1.setCell ⟨w.heap.size, 0, none⟩ (.bool false)).setCell ⟨w.heap.size, 1, none⟩ (.bool cw)).setCell ⟨w.heap.size, 2, none⟩ (.bool cv)).setCell ⟨w.heap.size, 3, none⟩ (.int .u8 K)).setCell ⟨w.heap.size, 4, none⟩ (.iface 105 (.slice (some ⟨g, 0, none⟩) (ixby K l (nSeg false l)).length (ixby K l (nSeg false l)).length))).setCell ⟨w.heap.size, 5, none⟩ (fl R0)).setCell ⟨w.heap.size, 6, none⟩ (fl R1)).setCell ⟨w.heap.size, 7, none⟩ (fl R2)).setCell ⟨w.heap.size, 8, none⟩ (fl R3)).setCell ⟨w.heap.size, 9, none⟩ (.slice A0 l.length c0))).heap[k]? = w1.heap[k]? := by
      intro k h1 _
      simp at h1
      iterate 10 refine (Below.heap_setCell _ _ _ _ (by show k ≠ w.heap.size; omega)).trans ?_
      rfl
    have sq2 := sq.keep hk
    refine ⟨_, rfl, ⟨.iface 105 (.slice (some ⟨g, 0, none⟩) (ixby K l (nSeg false l)).length (ixby K l (nSeg false l)).length), _, (hfin _ (fun k hk' => set10 (by omega)) (by simp)), Nat.le_refl _, hlt, by subst e1 e2 e3 e4 e5 e6; exact he, ?_⟩, st2.hb⟩
    obtain ⟨A, c, hv, hq⟩ := sq2
    refine ⟨A, c, hv, fun k p hp => ?_⟩
    obtain ⟨b, h1, h2, h3, h4⟩ := hq k p hp
    exact ⟨b, h1, by simp at h2; omega, by rw [hsz]; exact h3, h4⟩
theorem index2_c (K : Nat) (hK : K ≤ 2) (w : World) : Calls Try.prog 33 #[.int .i64 K, .int .i64 2] w fun e w' => e = .returned (.pointer (some ⟨w.heap.size, 0, none⟩)) ∧ w' = w.alloc (.cells #[.int .u8 K, .int .i64 2] 84) := by
  have hk : K = 0 ∨ K = 1 ∨ K = 2 := by omega
  rcases hk with rfl | rfl | rfl
  · go_enter Try.func33, Try.ntmps33
    go_wp2
    go_ret
    exact ⟨rfl, rfl⟩
  · go_enter Try.func33, Try.ntmps33
    go_wp2
    go_ret
    exact ⟨rfl, rfl⟩
  · go_enter Try.func33, Try.ntmps33
    go_wp2
    go_ret
    exact ⟨rfl, rfl⟩
set_option maxRecDepth 100000 in
set_option maxHeartbeats 2000000 in
theorem newPolyK_c (K : Nat) (hK2 : K ≤ 2) (l : List (Int × Int)) (hl : l.length ≤ 12) (h2l : 2 ≤ l.length) (hbd : ∀ p ∈ l, Bnd p) (ob : Nat) (v : Value) (lo hb0 : Nat) (w : World) (hhb : hb0 ≤ w.heap.size)
    (hob : w.heap[ob]? = some (.cells #[.int .u8 K, .int .i64 2] 84 (0, 0))) (hv : SlQ lo hb0 w v l) :
    Calls Try.prog 31 #[v, .slice none 0 0, .pointer (some ⟨ob, 0, none⟩)] w fun e w' => ∃ n b : Nat, e = .returned (.pointer (some ⟨n, 0, none⟩)) ∧ w'.heap[n]? = some (.cells #[.iface 90 (.pointer (some ⟨b, 0, none⟩)), .slice none 0 0] 70 (0, 0)) ∧ SkP K true l 86 w.heap.size w'.heap.size b w' ∧ Below w.heap.size w w' := by
  have st0 := (Blk.nil w).push rfl #[.nilIface, .slice none 0 0] 70
  go_enter Try.func31, Try.ntmps31
  go_wp2_with (go_at_call 36; refine JR.StopM.out ?_)
  refine ⟨?_⟩
  have hob1 := (st0.hb.block ob (lt_of_some hob)).trans hob
  refine (newRingK_c K l v _ _ (makeSeriesK_c K hK2 true l hl h2l hbd ob v lo hb0 _ (by simp; omega) hob1 (hv.below st0.hb))).mono ?_
  rintro e w1 ⟨be, rfl, hse, hb⟩
  have st1 := st0.ext hb
  clear hb st0 hob1
  have x0 := st1.cell 0 rfl 0
  have x1 := st1.cell 0 rfl 1
  have xf := fun o => st1.frozen 0 rfl o
  simp only [List.getElem?_toArray, List.getElem?_cons_zero, List.getElem?_cons_succ] at x0 x1
  go_wp2
  go_ret
  have p0 := st1.put (o := 0) (v := .iface 90 (.pointer (some ⟨be, 0, none⟩))) 0 rfl ⟨.inl rfl, trivial⟩ (Nat.le_refl _)
  have hn := p0.known 0 _ rfl
  refine ⟨_, be, rfl, hn, ?_, p0.hb⟩
  refine (hse.keep fun k h1 h2 h3 => Below.heap_setCell _ _ _ _ (by show k ≠ w.heap.size; simp at h1; omega)).wide (by simp) (by simp)
/-- the type behind a series -/
def serT (closed : Bool) : TypeId := if closed then 90 else 77
/-- the type of a series' block -/
def serB (closed : Bool) : TypeId := if closed then 86 else 88
def SrP (K : Nat) (closed : Bool) (l : List (Int × Int)) (w : World) (e : Ending) (w' : World) : Prop :=
  ∃ b : Nat, e = .returned (.iface (serT closed) (.pointer (some ⟨b, 0, none⟩))) ∧ SkP K closed l (serB closed) w.heap.size w'.heap.size b w' ∧ Below w.heap.size w w'
set_option maxRecDepth 100000 in
set_option maxHeartbeats 2000000 in
theorem series_c (K : Nat) (hK2 : K ≤ 2) (closed : Bool) (l : List (Int × Int)) (hl : l.length ≤ 12) (h2l : 2 ≤ l.length) (hbd : ∀ p ∈ l, Bnd p) (v : Value) (w : World) (hv : SlP w v l) :
    Calls Try.prog 12 #[v, .bool closed, .int .i64 K, .int .i64 2] w (SrP K closed l w) := by
  have hpts := pts_c l (by omega) v w hv
  unfold SrP
  cases closed with
  | true =>
    go_enter Try.func12, Try.ntmps12
    go_wp2_with (go_at_call 32; refine JR.StopM.out ?_)
    refine ⟨?_⟩
    refine hpts.mono ?_
    rintro e w1 ⟨v1, rfl, sq, hb⟩
    clear hpts hv
    go_wp2_with (go_at_call 33; refine JR.StopM.out ?_)
    refine ⟨?_⟩
    refine (index2_c K hK2 w1).mono ?_
    rintro e w2 ⟨rfl, rfl⟩
    have hb2 : Below w1.heap.size w1 (w1.alloc (.cells #[.int .u8 K, .int .i64 2] 84)) := (Below.refl _ w1).alloc (Nat.le_refl _) _
    have ho := heap_alloc_new w1 (.cells #[.int .u8 K, .int .i64 2] 84)
    have sq2 := sq.below hb2
    have hB2 := hb.trans (hb2.mono hb.size)
    have hs2 : w1.heap.size ≤ (w1.alloc (.cells #[.int .u8 K, .int .i64 2] 84)).heap.size := hb2.size
    clear hb hb2 sq
    generalize w1.alloc (.cells #[.int .u8 K, .int .i64 2] 84) = w2 at *
    go_wp2_with (go_at_call 31; refine JR.StopM.out ?_)
    refine ⟨?_⟩
    refine (newPolyK_c K hK2 l hl h2l hbd _ v1 w.heap.size w1.heap.size w2 hs2 ho sq2).mono ?_
    rintro e w3 ⟨n, b, rfl, hn, hs, hb3⟩
    have hB3 := hB2.trans (hb3.mono hB2.size)
    have hs3 := hs.wide hB2.size (Nat.le_refl _)
    have x0 := cellAt hn 0
    simp only [List.getElem?_toArray, List.getElem?_cons_zero, List.getElem?_cons_succ] at x0
    clear hn hs hb3 hB2 sq2 ho
    go_wp2
    go_ret
    exact ⟨b, rfl, hs3, hB3⟩
  | false =>
    go_enter Try.func12, Try.ntmps12
    go_wp2_with (go_at_call 32; refine JR.StopM.out ?_)
    refine ⟨?_⟩
    refine hpts.mono ?_
    rintro e w1 ⟨v1, rfl, sq, hb⟩
    clear hpts hv
    go_wp2_with (go_at_call 33; refine JR.StopM.out ?_)
    refine ⟨?_⟩
    refine (index2_c K hK2 w1).mono ?_
    rintro e w2 ⟨rfl, rfl⟩
    have hb2 : Below w1.heap.size w1 (w1.alloc (.cells #[.int .u8 K, .int .i64 2] 84)) := (Below.refl _ w1).alloc (Nat.le_refl _) _
    have ho := heap_alloc_new w1 (.cells #[.int .u8 K, .int .i64 2] 84)
    have sq2 := sq.below hb2
    have hB2 := hb.trans (hb2.mono hb.size)
    have hs2 : w1.heap.size ≤ (w1.alloc (.cells #[.int .u8 K, .int .i64 2] 84)).heap.size := hb2.size
    clear hb hb2 sq
    generalize w1.alloc (.cells #[.int .u8 K, .int .i64 2] 84) = w2 at *
    go_wp2_with (go_at_call 34; refine JR.StopM.out ?_)
    refine ⟨?_⟩
    refine (newLineK_c K l v1 _ w2 (fun u hu => makeSeriesK_c K hK2 false l hl h2l hbd _ v1 w.heap.size w1.heap.size u (Nat.le_trans hs2 hu.size) ((hu.block _ (lt_of_some ho)).trans ho) (sq2.below hu))).mono ?_
    rintro e w3 ⟨b, rfl, hs, hb3⟩
    have hB3 := hB2.trans (hb3.mono hB2.size)
    have hs3 := hs.wide hB2.size (Nat.le_refl _)
    clear hs hb3 hB2 sq2 ho
    go_wp2
    go_ret
    exact ⟨b, rfl, hs3, hB3⟩
end Go.Proofs.Ytdhljiediafeoaa
