import Derived.Test.YtlpibeloedfbdaaGreatQS
import Derived.Test.YtlpibeloedfbdaaGreatQG
import Derived.Test.YtlpibeloedfbdaaGreatQT
set_option linter.unusedSimpArgs false
set_option linter.unusedVariables false
/-! Slices of slices of points; the guards of size. -/
namespace PF
open Go Go.RowKit JR
/-- the slice v holds slices of points -/
def SlH (w : World) (v : Value) (H : List (List (Int × Int))) : Prop :=
  ∃ A c, v = .slice A H.length c ∧ ∀ k h, H[k]? = some h → ∃ b off vh, A = some ⟨b, off, none⟩ ∧ w.cell? ⟨b, off + k, none⟩ = some vh ∧ SlP w vh h
theorem SlH.below {w w' : World} {v : Value} {H : List (List (Int × Int))} (h : SlH w v H) (hb : Below w.heap.size w w') : SlH w' v H := by
  obtain ⟨A, c, hv, hk⟩ := h
  refine ⟨A, c, hv, fun k x hx => ?_⟩
  obtain ⟨b, off, vh, h1, h2, h3⟩ := hk k x hx
  exact ⟨b, off, vh, h1, (hb.cell (World.block_lt_of_cell? w _ h2)).trans h2, h3.below hb⟩
theorem SlP.len {w : World} {v : Value} {l : List (Int × Int)} (h : SlP w v l) : ∃ A c, v = .slice A l.length c := by
  obtain ⟨A, c, hv, _⟩ := h
  exact ⟨A, c, hv⟩
end PF
namespace Go.Proofs.YtlpibeloedfbdaaGreat
open Go.RowKit PF JR

set_option maxHeartbeats 1000000 in
theorem fits8_c (H : List (List (Int × Int))) (hH : H.length ≤ 9223372036854775807) (hl : ∀ h ∈ H, h.length ≤ 9223372036854775807) (v : Value) (w : World) (hv : SlH w v H) :
    Calls Tryz.prog 9 #[v] w fun e w' => e = .returned (.bool (decide (H.length ≤ 2147483647) && H.all fun h => decide (h.length ≤ 2147483647))) ∧ Below w.heap.size w w' := by
  obtain ⟨A, c, rfl, hk⟩ := hv
  generalize hAns : (decide (H.length ≤ 2147483647) && H.all fun h => decide (h.length ≤ 2147483647)) = ans
  by_cases h0 : H.length ≤ 2147483647
  · have d0 : ¬ (2147483647 : Int) < (H.length : Int) := by omega
    have d1 := decide_eq_false d0
    rw [decide_eq_true h0, Bool.true_and] at hAns
    go_enter Tryz.func9, Tryz.ntmps9
    go_wp2
    go_loopw [10] (fun i wr => ∃ k : Nat, k ≤ H.length ∧ i = .int .i64 k ∧ (∀ h ∈ H.take k, h.length ≤ 2147483647) ∧ Below w.heap.size w wr) (fun i _ => H.length - (intOf i).toNat)
    case atStart => exact ⟨0, Nat.zero_le _, rfl, by simp, Below.refl _ _⟩
    case round =>
      obtain ⟨k, hkl, rfl, hall, hnx⟩ := hrel
      rcases Nat.lt_or_ge k H.length with hlt | hge
      · obtain ⟨h, hh⟩ : ∃ h, H[k]? = some h := ⟨H[k], by simp [hlt]⟩
        obtain ⟨b, off, vh, rfl, h1, h2⟩ := hk k h hh
        obtain ⟨A', c', rfl⟩ := h2.len
        have g1 := (hnx.cell (World.block_lt_of_cell? w _ h1)).trans h1
        have hlen := hl h (List.mem_of_getElem? hh)
        clear h1 h2 hk
        by_cases hb : h.length ≤ 2147483647
        · have d2 : ¬ (2147483647 : Int) < (h.length : Int) := by omega
          have d3 := decide_eq_false d2
          go_wp2
          go_roundw
          case rel =>
            refine ⟨k + 1, by omega, by go_num, ?_, hnx⟩
            intro x hx
            rw [List.take_add_one, hh] at hx
            simp at hx
            rcases hx with hx | rfl
            · exact hall x hx
            · exact hb
          case measure => simp [intOf]; omega
        · have d2 : (2147483647 : Int) < (h.length : Int) := by omega
          have d3 := decide_eq_true d2
          have hans : ans = false := by
            rw [← hAns]
            cases hx : H.all fun h => decide (h.length ≤ 2147483647) with
            | false => rfl
            | true =>
              rw [List.all_eq_true] at hx
              exact absurd (of_decide_eq_true (hx h (List.mem_of_getElem? hh))) hb
          clear hAns hall
          go_wp2
          go_ret
          exact ⟨by rw [hans]; rfl, hnx⟩
      · have hkk : k = H.length := by omega
        subst hkk
        rw [List.take_length] at hall
        have hans : ans = true := by
          rw [← hAns, List.all_eq_true]
          exact fun x hx => decide_eq_true (hall x hx)
        clear hAns hall hk
        go_wp2
        go_ret
        exact ⟨by rw [hans]; rfl, hnx⟩
  · have d0 : (2147483647 : Int) < (H.length : Int) := by omega
    have d1 := decide_eq_true d0
    rw [decide_eq_false h0, Bool.false_and] at hAns
    subst hAns
    go_enter Tryz.func9, Tryz.ntmps9
    go_wp2
    go_ret
    exact ⟨rfl, Below.refl _ _⟩

set_option maxHeartbeats 1000000 in
theorem fits7_c (K : Int) (l : List (Int × Int)) (H : List (List (Int × Int))) (hl0 : l.length ≤ 9223372036854775807) (hH : H.length ≤ 9223372036854775807) (hl : ∀ h ∈ H, h.length ≤ 9223372036854775807) (v vh : Value) (w : World) (hv : SlP w v l) (hh : SlH w vh H) :
    Calls Tryz.prog 4 #[.agg #[.int .i64 K, v, vh]] w fun e w' => e = .returned (.bool (decide (l.length ≤ 2147483647) && (decide (H.length ≤ 2147483647) && H.all fun h => decide (h.length ≤ 2147483647)))) ∧ Below w.heap.size w w' := by
  obtain ⟨A, c, rfl⟩ := hv.len
  have st0 := (Blk.nil w).push rfl #[.int .i64 K, .slice A l.length c, vh] 28
  have hh' := hh.below st0.hb
  by_cases h0 : l.length ≤ 2147483647
  · have d0 : ¬ (2147483647 : Int) < (l.length : Int) := by omega
    have d1 := decide_eq_false d0
    rw [decide_eq_true h0, Bool.true_and]
    have c8 := fun w h => fits8_c H hH hl vh w h
    generalize (decide (H.length ≤ 2147483647) && H.all fun h => decide (h.length ≤ 2147483647)) = ans at *
    go_enter Tryz.func4, Tryz.ntmps4
    go_wp2_with (go_at_call 9; refine (c8 _ hh').mono ?_; rintro e w1 ⟨rfl, hb⟩)
    all_goals cases ans
    all_goals first | (exfalso; simp at *; done) | skip
    all_goals
      go_wp2
      go_ret
      exact ⟨rfl, st0.hb.trans (hb.mono (by simp))⟩
  · have d0 : (2147483647 : Int) < (l.length : Int) := by omega
    have d1 := decide_eq_true d0
    rw [decide_eq_false h0, Bool.false_and]
    go_enter Tryz.func4, Tryz.ntmps4
    go_wp2
    go_ret
    exact ⟨rfl, st0.hb⟩
end Go.Proofs.YtlpibeloedfbdaaGreat
set_option linter.unusedSimpArgs false
set_option linter.unusedVariables false
/-! NewPoly and shaped: a polygon with holes, any index. -/
namespace PF
open Go Go.RowKit JR
/-- a slice of slices of points of floats -/
def HolQ (w : World) (v : Value) (H : List (List (Int × Int))) : Prop :=
  ∃ A c, v = .slice A H.length c ∧ ∀ k h, H[k]? = some h → ∃ b x, A = some ⟨b, 0, none⟩ ∧ w.cell? ⟨b, k, none⟩ = some x ∧ ∃ lo hi, hi ≤ w.heap.size ∧ SlQ lo hi w x h
theorem HolQ.below {w w' : World} {v : Value} {H : List (List (Int × Int))} (h : HolQ w v H) (hb : Below w.heap.size w w') : HolQ w' v H := by
  obtain ⟨A, c, hv, hk⟩ := h
  refine ⟨A, c, hv, fun k x hx => ?_⟩
  obtain ⟨b, y, h1, h2, lo, hi, h3, h4⟩ := hk k x hx
  exact ⟨b, y, h1, (hb.cell (World.block_lt_of_cell? w _ h2)).trans h2, lo, hi, Nat.le_trans h3 hb.size, h4.below hb⟩
theorem SlQ.one {lo h : Nat} {u : World} {v : Value} {l : List (Int × Int)} (H : SlQ lo h u v l) (hne : 0 < l.length) : ∃ b, lo ≤ b ∧ b < h ∧ b < u.heap.size ∧ SlQ b (b + 1) u v l := by
  obtain ⟨A, c, hv, hk⟩ := H
  obtain ⟨b, hA, h1, h2, h3, -⟩ := hk 0 (l[0]) (by simp [hne])
  refine ⟨b, h1, h2, World.block_lt_of_cell? u _ h3, A, c, hv, fun k p hp => ?_⟩
  obtain ⟨b', hA', -, -, g1, g2⟩ := hk k p hp
  rw [hA] at hA'
  cases hA'
  exact ⟨b, hA, Nat.le_refl _, by omega, g1, g2⟩
/-- a row of slices is no row of points -/
theorem own_ne {w : World} {base n : Nat} {T : TypeId} {v : Value} {xs : List Value} {b : Nat} {x : Value} {l : List (Int × Int)} (H : w.ownsRow base T 1 v n xs) (h0 : ∃ A m c, xs[0]? = some (.slice A m c))
    (hs : SlQ b (b + 1) w x l) (hne : 0 < l.length) : some b ≠ v.ownBlock := by
  intro he
  obtain ⟨A, m, c, h0⟩ := h0
  have h1 := H.cells he.symm _ _ h0
  obtain ⟨A', c', hv, hk⟩ := hs
  obtain ⟨b', hA', g1, g2, g3, -⟩ := hk 0 (l[0]) (by simp [hne])
  have hb : b' = b := by omega
  subst hb
  have e : (⟨b', 0, none⟩ : Addr).add 0 = ⟨b', 0 + 0 * 2, none⟩ := by unfold Addr.add; split <;> simp_all
  rw [e, g3] at h1
  cases h1
theorem Blk.grown {w u u' : World} {L : List (Nat × Array Value × TypeId)} {row : Option Nat} (h : Blk w u L) (hg : u.grownBy u' row) (hne : ∀ (i : Nat) (x : Nat × Array Value × TypeId), L[i]? = some x → some x.1 ≠ row) (hrow : ∀ g, row = some g → w.heap.size ≤ g) : Blk w u' L :=
  ⟨fun i x hx => (hg.block x.1 (lt_of_some (h.known i x hx)) (hne i x hx)).trans (h.known i x hx), row_below h.hb hg hrow h.hb.size⟩
theorem HolQ.own {w : World} {base : Nat} {T : TypeId} {v : Value} {xs : List Value} {H : List (List (Int × Int))} (hown : w.ownsRow base T 1 v H.length xs)
    (hqs : ∀ (j : Nat) (x : List (Int × Int)), j < H.length → H[j]? = some x → ∃ y b, xs[j]? = some y ∧ b < w.heap.size ∧ SlQ b (b + 1) w y x) : HolQ w v H := by
  rcases id hown.2 with ⟨rfl, h0⟩ | ⟨g, cap, cur, rfl, _⟩
  · have : H = [] := List.eq_nil_of_length_eq_zero h0
    subst this
    exact ⟨none, 0, rfl, fun k p hp => by simp at hp⟩
  · refine ⟨_, _, rfl, fun k x hx => ?_⟩
    have hkl : k < H.length := by
      rcases Nat.lt_or_ge k H.length with h | h
      · exact h
      · rw [List.getElem?_eq_none h] at hx; cases hx
    obtain ⟨y, b, e1, e2, e3⟩ := hqs k x hkl hx
    have a1 := hown.cells (g := g) rfl _ _ e1
    have e : (⟨g, 0, none⟩ : Addr).add k = ⟨g, k, none⟩ := by unfold Addr.add; split <;> simp_all
    rw [e] at a1
    exact ⟨g, y, rfl, a1, b, b + 1, e2, e3⟩
end PF
namespace Go.Proofs.YtlpibeloedfbdaaGreat
open Go.RowKit PF JR
/-- a ring or a hole that is right -/
def okK (l : List (Int × Int)) : Prop := 2 ≤ l.length ∧ True ∧ l.length ≤ 12 ∧ ∀ p ∈ l, Bnd p
/-- the value is a ring of these points with an index; its blocks are from number lo up to hi -/
def RngK (K : Nat) (lo hi : Nat) (w : World) (v : Value) (l : List (Int × Int)) : Prop :=
  ∃ b : Nat, v = .iface 95 (.pointer (some ⟨b, 0, none⟩)) ∧ SkP K true l 81 lo hi b w
theorem RngK.keep {K lo hi : Nat} {w w' : World} {v : Value} {l : List (Int × Int)} (H : RngK K lo hi w v l)
    (hk : ∀ k, lo ≤ k → k < hi → k < w.heap.size → w'.heap[k]? = w.heap[k]?) : RngK K lo hi w' v l := by
  obtain ⟨b, h1, h2⟩ := H
  exact ⟨b, h1, h2.keep hk⟩
theorem RngK.wide {K lo hi lo' hi' : Nat} {w : World} {v : Value} {l : List (Int × Int)} (H : RngK K lo hi w v l) (h1 : lo' ≤ lo) (h2 : hi ≤ hi') : RngK K lo' hi' w v l := by
  obtain ⟨b, e, h⟩ := H
  exact ⟨b, e, h.wide h1 h2⟩
theorem ringK_c (K : Nat) (hK : K ≤ 2) (l : List (Int × Int)) (h : okK l) (ob : Nat) (v : Value) (lo hb0 : Nat) (w : World) (hhb : hb0 ≤ w.heap.size)
    (hob : w.heap[ob]? = some (.cells #[.int .u8 K, .int .i64 2] 77 (0, 0))) (hv : SlQ lo hb0 w v l) :
    Calls Tryz.prog 40 #[v, .pointer (some ⟨ob, 0, none⟩)] w fun e w' => ∃ v', e = .returned v' ∧ RngK K w.heap.size w'.heap.size w' v' l ∧ Below w.heap.size w w' := by
  refine (newRingK_c K l v _ w (makeSeriesK_c K hK true l h.2.2.1 h.1 h.2.2.2 ob v lo hb0 w hhb hob hv)).mono ?_
  rintro e w' ⟨b, rfl, hs, hB⟩
  exact ⟨_, rfl, ⟨b, rfl, hs⟩, hB⟩
/-- a slice of rings -/
def RgsK (K : Nat) (lo hi : Nat) (w : World) (v : Value) (H : List (List (Int × Int))) : Prop :=
  ∃ A c, v = .slice A H.length c ∧ ∀ k h, H[k]? = some h → ∃ b x, A = some ⟨b, 0, none⟩ ∧ lo ≤ b ∧ b < hi ∧ w.cell? ⟨b, k, none⟩ = some x ∧ RngK K lo hi w x h
theorem RgsK.keep {K : Nat} {lo hi : Nat} {w w' : World} {v : Value} {H : List (List (Int × Int))} (h : RgsK K lo hi w v H) (hb : ∀ k, lo ≤ k → k < hi → k < w.heap.size → w'.heap[k]? = w.heap[k]?) : RgsK K lo hi w' v H := by
  obtain ⟨A, c, hv, hk⟩ := h
  refine ⟨A, c, hv, fun k x hx => ?_⟩
  obtain ⟨b, y, h1, h5, h6, h2, h4⟩ := hk k x hx
  exact ⟨b, y, h1, h5, h6, (World.cell?_of_block (hb b h5 h6 (World.block_lt_of_cell? w _ h2))).trans h2, h4.keep hb⟩
/-- block n holds a polygon; its blocks are from number lo up to hi -/
def PolK (K : Nat) (lo hi : Nat) (w : World) (n : Nat) (l : List (Int × Int)) (H : List (List (Int × Int))) : Prop :=
  ∃ ve vs, lo ≤ n ∧ n < hi ∧ w.heap[n]? = some (.cells #[ve, vs] 90 (0, 0)) ∧ RngK K lo hi w ve l ∧ RgsK K lo hi w vs H
theorem PolK.keep {K : Nat} {lo hi : Nat} {w w' : World} {n : Nat} {l : List (Int × Int)} {H : List (List (Int × Int))} (h : PolK K lo hi w n l H) (hb : ∀ k, lo ≤ k → k < hi → k < w.heap.size → w'.heap[k]? = w.heap[k]?) : PolK K lo hi w' n l H := by
  obtain ⟨ve, vs, g1, g2, h1, h2, h3⟩ := h
  exact ⟨ve, vs, g1, g2, (hb n g1 g2 (lt_of_some h1)).trans h1, h2.keep hb, h3.keep hb⟩
theorem PolK.below {K : Nat} {lo hi : Nat} {w w' : World} {n : Nat} {l : List (Int × Int)} {H : List (List (Int × Int))} (h : PolK K lo hi w n l H) (hb : Below w.heap.size w w') : PolK K lo hi w' n l H :=
  h.keep fun k _ _ h3 => hb.block k h3
def PoK (K : Nat) (l : List (Int × Int)) (H : List (List (Int × Int))) (w : World) (e : Ending) (w' : World) : Prop :=
  ∃ n : Nat, e = .returned (.pointer (some ⟨n, 0, none⟩)) ∧ PolK K w.heap.size w'.heap.size w' n l H ∧ Below w.heap.size w w'
/-- a ring, as an operation gives it -/
def _root_.JR.Ent.rngK (K : Nat) (l : List (Int × Int)) : Ent := .rel (fun v lo hi w => RngK K lo hi w v l) (fun _ _ _ _ _ hk H => H.keep fun k h1 h2 _ => hk k h1 h2)
theorem infoSr : (Tryz.prog.info? 87).map (fun i => (i.zero, i.size, i.bytes)) = some (some .nilIface, 1, 16) := by kernel_rfl

set_option maxRecDepth 100000 in
set_option maxHeartbeats 2000000 in
theorem newPolyKH_c (K : Nat) (hK2 : K ≤ 2) (l : List (Int × Int)) (H : List (List (Int × Int))) (h : okK l) (hH : ∀ x ∈ H, okK x) (hm : H.length ≤ 1000) (ob : Nat) (v vh : Value) (lo hb0 : Nat) (w : World) (hhb : hb0 ≤ w.heap.size)
    (hob : w.heap[ob]? = some (.cells #[.int .u8 K, .int .i64 2] 77 (0, 0))) (hv : SlQ lo hb0 w v l) (hvh : HolQ w vh H) :
    Calls Tryz.prog 37 #[v, vh, .pointer (some ⟨ob, 0, none⟩)] w (PoK K l H w) := by
  obtain ⟨A, c, hvv, hk⟩ := hvh
  subst hvv
  obtain ⟨i0, hi, hz0, hz1, hz2⟩ := info_parts infoSr
  have hmk : ∀ u : World, (Instr.makeSlice 88 (.int .i64 H.length) (.int .i64 H.length)).run Tryz.prog u = .ok (.slice (some ⟨u.heap.size, 0, none⟩) H.length H.length) (u.alloc (.cells (madeCells #[.nilIface] (H.length * 1)) 87)) := by
    intro u
    have := run_make (P := Tryz.prog) u 88 87 i0 .nilIface Tryz.underlying88 hi hz0 .i64 .i64 H.length H.length (by omega) (by omega) (by rw [hz2]; omega) (by omega)
    rw [hz1] at this
    have e : (Value.nilIface).cells = #[.nilIface] := rfl
    rw [e] at this
    simpa using this
  have st0 := (Blk.nil w).push rfl #[.nilIface, .slice none 0 0] 90
  go_enter Tryz.func37, Tryz.ntmps37
  go_wp2_with (go_at_call 40; refine JR.StopM.out ?_)
  refine ⟨?_⟩
  have hob1 := (st0.hb.block ob (lt_of_some hob)).trans hob
  refine (ringK_c K hK2 l h ob v lo hb0 _ (by simp; omega) hob1 (hv.below st0.hb)).mono ?_
  rintro e w1 ⟨ve, rfl, hve, hb⟩
  have st1 := st0.ext hb
  clear hb st0 hob1
  have x0 := st1.cell 0 rfl 0
  have x1 := st1.cell 0 rfl 1
  have xf := fun o => st1.frozen 0 rfl o
  simp only [List.getElem?_toArray, List.getElem?_cons_zero, List.getElem?_cons_succ] at x0 x1
  obtain ⟨be, rfl, hse⟩ := hve
  have hve : RngK K (w.heap.size + 1) w1.heap.size w1 (.iface 95 (.pointer (some ⟨be, 0, none⟩))) l := ⟨be, rfl, by simpa using hse⟩
  clear hse
  rcases Nat.eq_zero_or_pos H.length with h0 | h0
  · have hd : ¬ (0 : Int) < (H.length : Int) := by omega
    have hH0 : H = [] := List.eq_nil_of_length_eq_zero h0
    have hd' := decide_eq_false hd
    clear hmk hk hH hm hob hv h0
    go_wp2
    go_ret
    have p0 := st1.put (o := 0) (v := .iface 95 (.pointer (some ⟨be, 0, none⟩))) 0 rfl ⟨.inl rfl, trivial⟩ (Nat.le_refl _)
    have hn := p0.known 0 _ rfl
    have hlt := p0.lt 0 rfl
    refine ⟨w.heap.size, rfl, ⟨_, _, Nat.le_refl _, hlt, hn, ?_, ?_⟩, p0.hb⟩
    · refine (hve.keep fun k h1 h2 h3 => Below.heap_setCell _ _ _ _ (by show k ≠ w.heap.size; omega)).wide (by omega) (by simp)
    · subst hH0
      exact ⟨none, 0, rfl, fun k x hx => by simp at hx⟩
  · have hd : (0 : Int) < (H.length : Int) := by omega
    have hd' := decide_eq_true hd
    have hlt0 := st1.lt 0 rfl
    have hne0 : w.heap.size ≠ w1.heap.size := Nat.ne_of_lt hlt0
    go_wp2
    have p0 := st1.put (o := 0) (v := .iface 95 (.pointer (some ⟨be, 0, none⟩))) 0 rfl ⟨.inl rfl, trivial⟩ (Nat.le_refl _)
    have p1 := p0.put (o := 1) (v := .slice (some ⟨w1.heap.size, 0, none⟩) H.length H.length) 0 rfl ⟨.inl rfl, trivial⟩ (Nat.le_refl _)
    have p2 := p1.push (b := w1.heap.size) (by simp) (madeCells #[.nilIface] H.length) 87
    have hsz := size_madeCells #[.nilIface] H.length
    have hve2 := hve.keep (w' := ((w1.setCell ⟨w.heap.size, 0, none⟩ (.iface 95 (.pointer (some ⟨be, 0, none⟩)))).setCell ⟨w.heap.size, 1, none⟩ (.slice (some ⟨w1.heap.size, 0, none⟩) H.length H.length)).alloc (.cells (madeCells #[.nilIface] H.length) 87))
      (fun k h1 h2 h3 => (Below.heap_alloc _ _ k (by simp; omega)).trans ((Below.heap_setCell _ _ _ _ (by show k ≠ w.heap.size; omega)).trans (Below.heap_setCell _ _ _ _ (by show k ≠ w.heap.size; omega))))
    go_loopw [27] (fun i wr => ∃ k : Nat, k ≤ H.length ∧ i = .int .i64 k ∧ ∃ cs : Array Value, cs.size = H.length ∧ Blk w wr [(w1.heap.size, cs, 87), (w.heap.size, #[.iface 95 (.pointer (some ⟨be, 0, none⟩)), .slice (some ⟨w1.heap.size, 0, none⟩) H.length H.length], 90)]
      ∧ RngK K (w.heap.size + 1) w1.heap.size wr (.iface 95 (.pointer (some ⟨be, 0, none⟩))) l ∧ ∀ (j : Nat) (x : List (Int × Int)), j < k → H[j]? = some x → ∃ y, cs[j]? = some y ∧ RngK K (w1.heap.size + 1) wr.heap.size wr y x) (fun i _ => H.length - (intOf i).toNat)
    case atStart => exact ⟨0, Nat.zero_le _, rfl, _, by rw [hsz], p2, hve2, fun j x hj => absurd hj (Nat.not_lt_zero _)⟩
    case round =>
      clear p0 p1 p2 hve2 hsz x0 x1 xf st1 hve hmk
      obtain ⟨k, hkl, rfl, cs, hcs, hB, hvr, hrs⟩ := hrel
      rcases Nat.lt_or_ge k H.length with hlt | hge
      · obtain ⟨x, hx⟩ : ∃ x, H[k]? = some x := ⟨H[k], by simp [hlt]⟩
        obtain ⟨bb, y, rfl, h1, lo1, hi1, hh, gs⟩ := hk k x hx
        have okx := hH x (List.mem_of_getElem? hx)
        have hBs := hB.hb.size
        have hh1 : hi1 ≤ wr.heap.size := by omega
        have hbb := World.block_lt_of_cell? w _ h1
        simp only at hbb
        have gy := (hB.hb.cell hbb).trans h1
        have gs := gs.below hB.hb
        have go := (hB.hb.block ob (lt_of_some hob)).trans hob
        have hob' := lt_of_some hob
        have hrow := hB.known 0 _ rfl
        have hlt' : (k : Int) < (H.length : Int) := by omega
        have z1 := hB.cell 1 rfl 1
        simp only [List.getElem?_toArray, List.getElem?_cons_zero, List.getElem?_cons_succ] at z1
        have hw1 : w.heap.size < w1.heap.size := hlt0
        have hw2 := hB.lt 0 rfl
        clear hk h1 hob
        go_wp2
        refine wp_region_K [w1.heap.size] [.val (.pointer (some ⟨w.heap.size, 0, none⟩)),
            .val (.pointer (some ⟨w.heap.size, 0, none⟩)),
            .val (.pointer (some ⟨w.heap.size, 1, none⟩)),
            .val (.slice (some ⟨w1.heap.size, 0, none⟩) H.length H.length),
            .val (.int .i64 k),
            .val (.slice (some ⟨bb, 0, none⟩) H.length c),
            .val (.int .i64 k),
            .val (.pointer (some ⟨bb, k, none⟩)),
            .val (y),
            .val (.pointer (some ⟨ob, 0, none⟩)),
            .rngK K x,
            .val (.pointer (some ⟨w1.heap.size, k, none⟩)),
            .turnS w1.heap.size cs k 40 87]
          [[.ini 7], [.frm 0 30], [.frm 1 31], [.frm 2 32], [.ini 8], [.ini 1], [.ini 8], [.frm 5 35, .frm 6 36], [.frm 7 37], [.ini 2], [.frm 8 38, .frm 9 39], [.frm 3 33, .frm 4 34], [.frm 11 41, .frm 10 40, .til 12]]
          mixed (by kernel_rfl) (by kernel_rfl) (allPre_of ⟨trivial, trivial, trivial, trivial, trivial, trivial, trivial, trivial, trivial, trivial, trivial, trivial, hrow, trivial⟩)
          ⟨OpOk.quiet rfl ?_,
            OpOk.quiet rfl ?_,
            OpOk.quiet rfl ?_,
            OpOk.quiet rfl ?_,
            OpOk.quiet rfl ?_,
            OpOk.quiet rfl ?_,
            OpOk.quiet rfl ?_,
            OpOk.quiet rfl ?_,
            OpOk.quiet rfl ?_,
            OpOk.quiet rfl ?_,
            OpOk.call rfl ?_,
            OpOk.quiet rfl ?_,
            OpOk.turnS rfl rfl (lt_of_some hrow) ⟨row_still rfl, row_still rfl, row_still rfl, row_still rfl, row_still rfl, row_still rfl, row_still rfl, row_still rfl, row_still rfl, row_still rfl, row_none rfl (fun h => (nomatch h)), row_still rfl, row_self rfl, trivial⟩ (oldFree_of ⟨.inr (fun h => (nomatch h)), .inr (fun h => (nomatch h)), .inr (fun h => (nomatch h)), .inr (fun h => (nomatch h)), .inr (fun h => (nomatch h)), .inr (fun h => (nomatch h)), .inr (fun h => (nomatch h)), .inr (fun h => (nomatch h)), .inr (fun h => (nomatch h)), .inr (fun h => (nomatch h)), .inr (fun h => (nomatch h)), .inr (fun h => (nomatch h)), .inl rfl, trivial⟩) (by kernel_rfl) (by omega) ?_ (fun _ _ h => Keep.setRow h (.inr (by simp))), trivial⟩ ?_
        · intro a u _ hf
          simp [facts, Need.fact, Act.eval] at hf
          go_simp
        · intro a u _ hf
          simp [facts, Need.fact, Ent.val, Act.eval] at hf
          go_simp
        · intro a u _ hf
          simp [facts, Need.fact, Ent.val, Act.eval] at hf
          go_simp
        · intro a u hG hf
          simp [facts, Need.fact, Ent.val, Act.eval] at hf
          have hc := fun (o : Nat) => hG.cell (p := ⟨w.heap.size, o, none⟩) (by show w.heap.size < _; omega) (by simp; omega)
          have hc2 := fun (o : Nat) => hG.cell (p := ⟨bb, o, none⟩) (by show bb < _; omega) (by simp; omega)
          go_simp
        · intro a u _ hf
          simp [facts, Need.fact, Act.eval] at hf
          go_simp
        · intro a u _ hf
          simp [facts, Need.fact, Act.eval] at hf
          go_simp
        · intro a u _ hf
          simp [facts, Need.fact, Act.eval] at hf
          go_simp
        · intro a u _ hf
          simp [facts, Need.fact, Ent.val, Act.eval] at hf
          go_simp
        · intro a u hG hf
          simp [facts, Need.fact, Ent.val, Act.eval] at hf
          have hc := fun (o : Nat) => hG.cell (p := ⟨w.heap.size, o, none⟩) (by show w.heap.size < _; omega) (by simp; omega)
          have hc2 := fun (o : Nat) => hG.cell (p := ⟨bb, o, none⟩) (by show bb < _; omega) (by simp; omega)
          go_simp
        · intro a u _ hf
          simp [facts, Need.fact, Act.eval] at hf
          go_simp
        · intro a u hG hf
          simp [facts, Need.fact, Ent.val, Act.eval] at hf
          have g3 := (hG.block ob (lt_of_some go) (by simp; omega)).trans go
          have g4 := gs.keep' (fun b _ h2 h3 => hG.block b h3 (by simp; omega))
          refine ⟨_, _, by go_simp, (ringK_c K hK2 x okx ob y lo1 hi1 _ (Nat.le_trans hh1 hG.size) g3 g4).mono ?_⟩
          rintro e w' ⟨v', rfl, hr, hb⟩
          exact ⟨_, rfl, hb, hr⟩
        · intro a u _ hf
          simp [facts, Need.fact, Ent.val, Act.eval] at hf
          go_simp
        · intro a u _ hf
          obtain ⟨⟨_, _, f1⟩, ⟨_, _, f2⟩, f3, -⟩ := hf
          obtain ⟨b2, f2, -⟩ := f2
          exact ⟨f1, by rw [f2]; rfl, f3⟩
        intro u lw hw wc hK hE hI hD
        simp [allE, Ent.rngK, Ent.turnS, Ent.val] at hE
        obtain ⟨u0, u1, u2, u3, u4, u5, u6, u7, u8, u9, e10, u11, e12⟩ := hE
        simp only [allPut, Act.put, u0, u1, u2, u3, u4, u5, u6, u7, u8, u9, u11]
        clear u0 u1 u2 u3 u4 u5 u6 u7 u8 u9 u11

        simp [allPut, Act.put, Act.eval] at e12
        replace e10 : RngK K (lw 10) (hw 10) wc (u 10) x := e10
        have i10 := hI 10 (by show 10 < 13; omega)
        try simp only [List.setIfInBounds_toArray, List.set_cons_zero, List.set_cons_succ]
        generalize u 10 = y10 at *
        have hB2 := (hB.tail.keep hK (fun i x hx => by rcases i with _ | i <;> simp at hx <;> subst hx <;> simp <;> omega) (by intro z hz; simp at hz; omega)).add e12
        have hvr2 := hvr.keep (w' := wc) (fun k h1 h2 h3 => hK.block k h3 (by simp; omega))
        have hrs2 : ∀ (j : Nat) (x : List (Int × Int)), j < k + 1 → H[j]? = some x → ∃ y, (cs.setIfInBounds k y10)[j]? = some y ∧ RngK K (w1.heap.size + 1) wc.heap.size wc y x := by
          intro j x' hj hx'
          by_cases hjk : j = k
          · subst hjk
            rw [hx] at hx'
            cases hx'
            exact ⟨y10, by rw [Array.getElem?_setIfInBounds, if_pos rfl, if_pos (by omega)], e10.wide (by omega) i10.1⟩
          · obtain ⟨y', hy1, hy2⟩ := hrs j x' (by omega) hx'
            exact ⟨y', by rw [Array.getElem?_setIfInBounds_ne (by omega)]; exact hy1, (hy2.keep (fun k h1 h2 h3 => hK.block k h3 (by simp; omega))).wide (Nat.le_refl _) hK.size⟩
        clear hK hI hD e10 e12 i10 hrow gy gs go z1 hB hvr hrs hx okx hH
        go_wp2
        go_roundw
        case rel => exact ⟨k + 1, by omega, by go_num, _, by simp; exact hcs, hB2, hvr2, hrs2⟩
        case measure => simp [intOf]; omega
      · have hkk : k = H.length := by omega
        subst hkk
        have hn := hB.known 1 _ rfl
        have hlt := hB.lt 1 rfl
        have hltr := hB.lt 0 rfl
        have hcell := fun k => hB.cell 0 rfl k
        clear hk hH
        go_wp2
        go_ret
        refine ⟨w.heap.size, rfl, ⟨_, _, Nat.le_refl _, hlt, hn, hvr.wide (by omega) (by omega), ⟨_, _, rfl, fun k x hx => ?_⟩⟩, hB.hb⟩
        have hkl : k < H.length := by
          rcases Nat.lt_or_ge k H.length with h | h
          · exact h
          · rw [List.getElem?_eq_none h] at hx; cases hx
        obtain ⟨y, hy1, hy2⟩ := hrs k x hkl hx
        exact ⟨_, y, rfl, by omega, hltr, (hcell k).trans hy1, hy2.wide (by omega) (Nat.le_refl _)⟩
theorem RgsK.wide {K : Nat} {lo hi lo' hi' : Nat} {w : World} {v : Value} {H : List (List (Int × Int))} (h : RgsK K lo hi w v H) (h1 : lo' ≤ lo) (h2 : hi ≤ hi') : RgsK K lo' hi' w v H := by
  obtain ⟨A, c, hv, hk⟩ := h
  refine ⟨A, c, hv, fun k x hx => ?_⟩
  obtain ⟨b, y, g1, g5, g6, g2, g4⟩ := hk k x hx
  exact ⟨b, y, g1, by omega, by omega, g2, g4.wide h1 h2⟩
theorem PolK.wide {K : Nat} {lo hi lo' hi' : Nat} {w : World} {n : Nat} {l : List (Int × Int)} {H : List (List (Int × Int))} (h : PolK K lo hi w n l H) (h1 : lo' ≤ lo) (h2 : hi ≤ hi') : PolK K lo' hi' w n l H := by
  obtain ⟨ve, vs, g1, g2, g3, g4, g5⟩ := h
  exact ⟨ve, vs, by omega, by omega, g3, g4.wide h1 h2, g5.wide h1 h2⟩
theorem infoSp : (Tryz.prog.info? 58).map (fun i => (i.zero, i.size, i.bytes)) = some (some (.slice none 0 0), 1, 24) := by kernel_rfl
set_option maxRecDepth 100000 in
set_option maxHeartbeats 2000000 in
theorem shapedKH_c (K : Nat) (hK2 : K ≤ 2) (l : List (Int × Int)) (H : List (List (Int × Int))) (h : okK l) (hH : ∀ x ∈ H, okK x) (hm : H.length ≤ 1000) (ob : Nat) (v vh : Value) (w : World)
    (hob : w.heap[ob]? = some (.cells #[.int .u8 K, .int .i64 2] 77 (0, 0))) (hv : SlP w v l) (hh : SlH w vh H) :
    Calls Tryz.prog 15 #[.agg #[.int .i64 3, v, vh], .pointer (some ⟨ob, 0, none⟩)] w fun e w' => ∃ n : Nat, e = .returned (.iface 61 (.pointer (some ⟨n, 0, none⟩))) ∧ PolK K w.heap.size w'.heap.size w' n l H ∧ Below w.heap.size w w' := by
  obtain ⟨i0, hi, hz0, hz1, hz2⟩ := info_parts infoSp
  obtain ⟨A, c, rfl, hk⟩ := hh
  have st0 := (Blk.nil w).push rfl #[.int .i64 3, v, .slice A H.length c] 28
  have hone : v.oneCell' = true := by obtain ⟨A', c', hv', -⟩ := hv; rw [hv']; rfl
  go_enter Tryz.func15, Tryz.ntmps15
  go_wp2
  go_loopw [5, 32] (fun vo i wr => ∃ k : Nat, k ≤ H.length ∧ i = .int .i64 k ∧ ∃ xs : List Value, wr.ownsRow (w.heap.size + 1) 58 1 vo k xs ∧
    (∀ (j : Nat) (x : List (Int × Int)), j < k → H[j]? = some x → ∃ y b, xs[j]? = some y ∧ b < wr.heap.size ∧ SlQ b (b + 1) wr y x) ∧ Blk w wr [(w.heap.size, #[.int .i64 3, v, .slice A H.length c], 28)]) (fun _ i _ => H.length - (intOf i).toNat)
  case atStart => exact ⟨0, Nat.zero_le _, rfl, [], World.ownsRow_nil _ _ _ _, fun j x hj => absurd hj (Nat.not_lt_zero _), st0⟩
  case round =>
    clear st0
    obtain ⟨k, hkl, rfl, xs, hown, hqs, hB⟩ := hrel
    have hw0 := hB.lt 0 rfl
    rcases Nat.lt_or_ge k H.length with hlt | hge
    · obtain ⟨x, hx⟩ : ∃ x, H[k]? = some x := ⟨H[k], by simp [hlt]⟩
      obtain ⟨bb, off, y, rfl, h1, h2⟩ := hk k x hx
      have okx := hH x (List.mem_of_getElem? hx)
      have gy := (hB.hb.cell (World.block_lt_of_cell? w _ h1)).trans h1
      have gp := h2.below hB.hb
      have hlt' : (k : Int) < (H.length : Int) := by omega
      have hnx : ∀ x, x ∈ H → 0 < x.length := fun x hx => by have := (hH x hx).1; omega
      clear h1 h2 hk
      go_wp2_with (go_at_call 19; refine JR.StopM.out ?_)
      refine ⟨?_⟩
      refine (pts_c x (by have := okx.2.2.1; omega) y _ gp).mono ?_
      rintro e w1 ⟨v1, rfl, hq, hb⟩
      have ho2 := hown.kept (Ext.grown hb none) (own_none _)
      have hB1 := hB.ext hb
      have hs1 := hb.size
      have hltv := fun g hg => hown.lt g hg
      obtain ⟨b1, q1, q2, q3, hq1⟩ := hq.one (by have := okx.1; omega)
      obtain ⟨A1, c1, rfl⟩ := hq.len
      have hqs1 : ∀ (j : Nat) (x : List (Int × Int)), j < k → H[j]? = some x → ∃ y b, xs[j]? = some y ∧ b < wr.heap.size ∧ SlQ b (b + 1) w1 y x := by
        intro j x' hj hx'
        obtain ⟨y', b', e1, e2, e3⟩ := hqs j x' hj hx'
        exact ⟨y', b', e1, e2, e3.below hb⟩
      clear hb gp gy hq hqs
      go_wp2_with (at_builtin; refine wpList_append_own _ rfl _ _ 78 rfl (w.heap.size + 1) 58 i0 (.slice none 0 0) 1 24 Tryz.underlying78 hi hz0 hz1 hz2 rfl (by decide) _ _ _ rfl (ho2.alloc _) ⟨w1.heap.size, 0, none⟩ 1 1 [.slice A1 x.length c1] rfl rfl ?c1 ?c2 ?c3 ?c4 ?c5 ?_)
      case c1 => exact row_cells (heap_alloc_new w1 _)
      case c2 => intro u hu; simp at hu; subst hu; rfl
      case c3 => unfold maxLen; omega
      case c4 => omega
      case c5 => have := hB1.hb.size; have := hB1.lt 0 rfl; simp; omega
      intro v' w2 hown' hgrow _
      have h00 : 0 < k → ∃ A m c, xs[0]? = some (.slice A m c) := by
        intro hk0
        obtain ⟨y0, b0, e1, e2, e3⟩ := hqs1 0 (H[0]'(by omega)) hk0 (by simp)
        obtain ⟨A', c', e4⟩ := e3.len
        exact ⟨A', _, c', by rw [e1, e4]⟩
      have hxl : xs.length = k := by have := hown.1; omega
      have hgs : w1.heap.size + 1 ≤ w2.heap.size := by simpa using hgrow.size
      have hqs2 : ∀ (j : Nat) (x2 : List (Int × Int)), j < k + 1 → H[j]? = some x2 → ∃ y b, (xs ++ [Value.slice A1 x.length c1])[j]? = some y ∧ b < w2.heap.size ∧ SlQ b (b + 1) w2 y x2 := by
        intro j x' hj hx'
        by_cases hjk : j = k
        · subst hjk
          rw [hx] at hx'
          cases hx'
          refine ⟨.slice A1 x.length c1, b1, by rw [List.getElem?_append_right (by omega)]; simp [hxl], by omega, hq1.keep' fun b h1 h2 h3 => ?_⟩
          have hbb : b = b1 := by omega
          subst hbb
          exact (hgrow.block b (by simp; omega) (fun he => by have := (hltv _ he.symm).2; omega)).trans (Below.heap_alloc w1 _ b h3)
        · obtain ⟨y', b', e1, e2, e3⟩ := hqs1 j x' (by omega) hx'
          refine ⟨y', b', by rw [List.getElem?_append_left (by omega)]; exact e1, by omega, e3.keep' fun b h1 h2 h3 => ?_⟩
          have hbb : b = b' := by omega
          subst hbb
          exact (hgrow.block b (by simp; omega) (own_ne ho2 (h00 (by omega)) e3 (hnx x' (List.mem_of_getElem? hx')))).trans (Below.heap_alloc w1 _ b h3)
      have hB2 := (hB1.push rfl #[.slice A1 x.length c1] 58).tail.grown hgrow (fun i z hz => by
        rcases i with _ | i <;> simp at hz
        subst hz
        intro he
        have := (hltv _ he.symm).1
        simp at this
        omega) (fun g hg => by have := (hltv g hg).1; omega)
      clear hqs1 h00 hgrow ho2 hown hB hB1 hltv hq1
      go_wp2
      go_roundw
      case rel => exact ⟨k + 1, by omega, by go_num, _, hown', hqs2, hB2⟩
      case measure => simp [intOf]; omega
    · have hkk : k = H.length := by omega
      subst hkk
      have hol := HolQ.own hown hqs
      have sp := hv.below hB.hb
      have hobr := (hB.hb.block ob (lt_of_some hob)).trans hob
      have z1 := hB.cell 0 rfl 1
      simp only [List.getElem?_toArray, List.getElem?_cons_zero, List.getElem?_cons_succ] at z1
      clear hk hown hqs
      go_wp2_with (go_at_call 19; refine JR.StopM.out ?_)
      refine ⟨?_⟩
      refine (pts_c l (by have := h.2.2.1; omega) v _ sp).mono ?_
      rintro e w1 ⟨v1, rfl, hq, hb⟩
      have st1 := hB.ext hb
      have hol1 := hol.below hb
      have hob2 := (hb.block ob (lt_of_some hobr)).trans hobr
      clear hb hB sp hobr hol
      go_wp2_with (go_at_call 37; refine JR.StopM.out ?_)
      refine ⟨?_⟩
      have hP := newPolyKH_c K hK2 l H h hH hm ob v1 u5 _ _ w1 (Nat.le_refl _) hob2 hq hol1
      refine hP.mono ?_
      rintro e w2 ⟨n, rfl, hs, hb⟩
      have st2 := st1.ext hb
      have hsz := st1.hb.size
      clear hb hP hq st1 hob2 hol1
      go_wp2
      go_ret
      exact ⟨n, rfl, hs.wide hsz (Nat.le_refl _), st2.hb⟩
end Go.Proofs.YtlpibeloedfbdaaGreat
set_option linter.unusedSimpArgs false
set_option linter.unusedVariables false
/-! Poly.ContainsPoint: a polygon with holes. -/
namespace PF
/-- one of the first n -/
def orN (f : Nat → Bool) : Nat → Bool
  | 0 => false
  | n + 1 => orN f n || f n
theorem orN_hit {f : Nat → Bool} {k : Nat} : ∀ {n : Nat}, k < n → f k = true → orN f n = true := by
  intro n
  induction n with
  | zero => intro h; omega
  | succ n ih =>
    intro h hk
    rw [orN]
    by_cases e : k = n
    · subst e; simp [hk]
    · rw [ih (by omega) hk]; rfl
end PF
namespace Go.Proofs.YtlpibeloedfbdaaGreat
open Go.RowKit PF JR
set_option maxRecDepth 100000 in
set_option maxHeartbeats 4000000 in
theorem polyCPH_c (n px py : Nat) (E : Value) (hE : ∃ y, E = .iface 95 y) (r : Bool) (A : Option Addr) (N c : Nat) (hN : N ≤ 1000) (hh : Nat → Bool) (w : World) (hn : w.heap[n]? = some (.cells #[E, .slice A N c] 90 (0, 0)))
    (hring : ∀ u, Below w.heap.size w u → Calls Tryz.prog 107 #[E, .agg #[fl px, fl py], .bool true] u fun e w' => ∃ x : Int, e = .returned (.agg #[.bool r, .int .i64 x]) ∧ Below u.heap.size u w')
    (hhole : ∀ k, k < N → ∃ b y, A = some ⟨b, 0, none⟩ ∧ w.cell? ⟨b, k, none⟩ = some (.iface 95 y) ∧ ∀ u, Below w.heap.size w u → Calls Tryz.prog 107 #[.iface 95 y, .agg #[fl px, fl py], .bool false] u fun e w' => ∃ x : Int, e = .returned (.agg #[.bool (hh k), .int .i64 x]) ∧ Below u.heap.size u w') :
    Calls Tryz.prog 103 #[.pointer (some ⟨n, 0, none⟩), .agg #[fl px, fl py]] w fun e w' => e = .returned (.bool (r && !orN hh N)) ∧ Below w.heap.size w w' := by
  have st0 := (Blk.nil w).push rfl #[fl px, fl py] 50
  obtain ⟨E', rfl⟩ := hE
  have hn0 := (st0.hb.block n (lt_of_some hn)).trans hn
  have z0 := cellAt hn0 0
  have z1 := cellAt hn0 1
  simp only [List.getElem?_toArray, List.getElem?_cons_zero, List.getElem?_cons_succ] at z0 z1
  go_enter Tryz.func103, Tryz.ntmps103
  go_wp2
  generalize hW : w.alloc (.cells #[fl px, fl py] 50) = W at *
  refine wp_region_K [] [.val (.pointer (some ⟨n, 0, none⟩)), .val (.pointer (some ⟨n, 0, none⟩)), .val (.pointer (some ⟨n, 0, none⟩)), .val (.iface 95 E'), .val (.agg #[fl px, fl py]), .of (fun v => ∃ x : Int, v = .agg #[.bool r, .int .i64 x]), .val (.bool r), .val (.bool (!r))]
    [[.ini 0], [.frm 0 17], [.frm 1 18], [.frm 2 19], [.ini 3], [.frm 3 20, .frm 4 21], [.frm 5 22], [.frm 6 23]]
    mixed (by kernel_rfl) (by kernel_rfl) (allPre_of ⟨trivial, trivial, trivial, trivial, trivial, trivial, trivial, trivial, trivial⟩)
    ⟨OpOk.quiet rfl ?_, OpOk.quiet rfl ?_, OpOk.quiet rfl ?_, OpOk.quiet rfl ?_, OpOk.quiet rfl ?_, OpOk.call rfl ?_, OpOk.quiet rfl ?_, OpOk.quiet rfl ?_, trivial⟩ ?_
  · intro a u _ hf
    simp [facts, Need.fact, Act.eval] at hf
    go_simp
  · intro a u _ hf
    simp [facts, Need.fact, Ent.val, Act.eval] at hf
    go_simp
  · intro a u _ hf
    simp [facts, Need.fact, Ent.val, Act.eval] at hf
    go_simp
  · intro a u hG hf
    simp [facts, Need.fact, Ent.val, Act.eval] at hf
    have y0 := (hG.cell (p := ⟨n, 0, none⟩) (lt_of_some hn0) (by simp)).trans z0
    go_simp
  · intro a u hG hf
    simp [facts, Need.fact, Act.eval] at hf
    have stu := st0.keep hG (fun i x _ => by simp) (fun x hx => by simp at hx)
    have y0 := stu.cell 0 rfl 0
    have y1 := stu.cell 0 rfl 1
    simp only [List.getElem?_toArray, List.getElem?_cons_zero, List.getElem?_cons_succ] at y0 y1
    go_simp
  · intro a u hG hf
    simp [facts, Need.fact, Ent.val, Act.eval] at hf
    refine ⟨_, _, by go_simp, (hring u (hG.belowX st0.hb st0.hb.size (by simp))).mono ?_⟩
    rintro e w' ⟨x, rfl, hb⟩
    exact ⟨_, rfl, hb, x, rfl⟩
  · intro a u _ hf
    simp [facts, Need.fact, Ent.of, Act.eval] at hf
    obtain ⟨x, hf⟩ := hf
    have hfd : ∀ u, (Instr.field 167 (.agg #[.bool r, .int .i64 x]) 0).run Tryz.prog u = .ok (.bool r) u := fun u => by kernel_rfl
    go_simp
    try rw [hfd]
    try rfl
  · intro a u _ hf
    simp [facts, Need.fact, Ent.val, Act.eval] at hf
    go_simp
  intro u lw hw wc hKp hE hI hD
  simp only [allE, Ent.val, Ent.of] at hE
  obtain ⟨u0, u1, u2, u3, u4, ⟨x, u5⟩, u6, u7, -⟩ := hE
  simp only [Nat.reduceAdd] at u0 u1 u2 u3 u4 u5 u6 u7
  simp only [allPut, Act.put, Nat.reduceAdd, u0, u1, u2, u3, u4, u5, u6, u7]
  try simp only [List.setIfInBounds_toArray, List.set_cons_zero, List.set_cons_succ]
  clear hI hD u0 u1 u2 u3 u4 u5 u6 u7 hring
  have st1 := st0.keep hKp (fun i x _ => by simp) (fun x hx => by simp at hx)
  have y1 := (hKp.cell (p := ⟨n, 1, none⟩) (lt_of_some hn0) (by simp)).trans z1
  clear st0 hKp hW hn0 z0 z1
  cases r with
  | false =>
    clear hhole
    go_wp2
    go_ret
    exact ⟨rfl, st1.hb⟩
  | true =>
    clear hn
    simp only [Bool.not_true]
    go_wp2
    go_loopw [5, 30] (fun t i wr => t = .bool true ∧ ∃ k : Nat, k ≤ N ∧ i = .int .i64 k ∧ orN hh k = false ∧ Blk w wr [(w.heap.size, #[fl px, fl py], 50)]) (fun _ i _ => N - (intOf i).toNat)
    case atStart => exact ⟨rfl, 0, Nat.zero_le _, rfl, rfl, st1⟩
    case round =>
      clear st1 y1
      obtain ⟨rfl, k, hk, rfl, ho, hB⟩ := hrel
      rcases Nat.lt_or_ge k N with hlt | hge
      · obtain ⟨b, y, rfl, hc, hcall⟩ := hhole k hlt
        have hlt' : (k : Int) < (N : Int) := by omega
        have gc := (hB.hb.cell (World.block_lt_of_cell? w _ hc)).trans hc
        have c0 := hB.cell 0 rfl 0
        have c1 := hB.cell 0 rfl 1
        simp only [List.getElem?_toArray, List.getElem?_cons_zero, List.getElem?_cons_succ] at c0 c1
        clear hhole hc
        go_wp2_with (go_at_call 107; refine JR.StopM.out ?_)
        refine ⟨?_⟩
        refine (hcall _ hB.hb).mono ?_
        rintro e w1 ⟨x, rfl, hb⟩
        have hB1 := hB.ext hb
        clear hcall hB c0 c1 gc hb
        have hfd : (Instr.field 167 (.agg #[.bool (hh k), .int .i64 x]) 0).run Tryz.prog w1 = .ok (.bool (hh k)) w1 := by kernel_rfl
        cases hkk : hh k with
        | true =>
          have hor := orN_hit hlt hkk
          go_wp2
          rw [hkk] at hfd
          rw [hfd]
          simp only [Result.andThen_ok]
          go_wp2
          go_ret
          rw [hor]
          exact ⟨rfl, hB1.hb⟩
        | false =>
          go_wp2
          rw [hkk] at hfd
          rw [hfd]
          simp only [Result.andThen_ok]
          go_wp2
          go_roundw
          case rel => exact ⟨rfl, k + 1, hlt, by go_num, by rw [orN, ho, hkk]; rfl, hB1⟩
          case measure => simp [intOf]; omega
      · obtain rfl : k = N := by omega
        clear hhole
        go_wp2
        go_ret
        rw [ho]
        exact ⟨rfl, hB.hb⟩
end Go.Proofs.YtlpibeloedfbdaaGreat
set_option linter.unusedSimpArgs false
set_option linter.unusedVariables false
/-! impl.Ask of a polygon with holes and a point. -/
namespace Go.Proofs.YtlpibeloedfbdaaGreat
open Go.RowKit PF JR
/-- what a polygon says of a point -/
def polHas (l : List (Int × Int)) (H : List (List (Int × Int))) (p : Int × Int) : Bool := ringHas l p true && !orN (fun k => ringHas (H.getD k []) p false) H.length
theorem polHas_c (K : Nat) (hK : K ≤ 2) (l : List (Int × Int)) (H : List (List (Int × Int))) (h : okK l) (hH : ∀ x ∈ H, okK x) (hm : H.length ≤ 1000) (p : Int × Int) (hpb : Bnd p)
    (hray : ∀ x, (x = l ∨ x ∈ H) → ∀ k, k < nSeg true x → RayAt x p k) (n lo : Nat) (w : World) (hP : PolK K lo w.heap.size w n l H) (u : World) (hu : Below w.heap.size w u) :
    Calls Tryz.prog 103 #[.pointer (some ⟨n, 0, none⟩), .agg #[fl (fb p.1), fl (fb p.2)]] u fun e w' => e = .returned (.bool (polHas l H p)) ∧ Below u.heap.size u w' := by
  obtain ⟨ve, vs, g1, g2, hn, ⟨be, rfl, hse⟩, ⟨A, c, rfl, hk⟩⟩ := hP
  have hs := hu.size
  refine polyCPH_c n (fb p.1) (fb p.2) _ ⟨_, rfl⟩ (ringHas l p true) A H.length c hm (fun k => ringHas (H.getD k []) p false) u ((hu.block n (lt_of_some hn)).trans hn) (fun y hy => ?_) (fun k hkl => ?_)
  · exact polyRing_c true K hK l h.2.2.1 h.1 h.2.2.2 p hpb (hray l (.inl rfl)) 81 lo be w hse y (hu.trans (hy.mono hs))
  · have hx : H[k]? = some (H.getD k []) := by rw [List.getD_eq_getElem?_getD, List.getElem?_eq_getElem hkl]; rfl
    obtain ⟨b, y, rfl, -, -, hc, bx, rfl, hsx⟩ := hk k _ hx
    have okx := hH _ (List.mem_of_getElem? hx)
    refine ⟨b, _, rfl, (hu.cell (World.block_lt_of_cell? w _ hc)).trans hc, fun y hy => ?_⟩
    exact polyRing_c false K hK _ okx.2.2.1 okx.1 okx.2.2.2 p hpb (hray _ (.inr (List.mem_of_getElem? hx))) 81 lo bx w hsx y (hu.trans (hy.mono hs))
end Go.Proofs.YtlpibeloedfbdaaGreat
