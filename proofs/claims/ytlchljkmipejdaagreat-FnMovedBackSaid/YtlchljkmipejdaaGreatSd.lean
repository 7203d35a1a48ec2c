import Derived.Test.YtlchljkmipejdaaGreatPm
import Derived.Test.YtlchljkmipejdaaGreatAsk
set_option linter.unusedSimpArgs false
set_option linter.unusedVariables false
/-! shaped: lines and polygons. -/
namespace PF
open Go Go.RowKit JR
theorem SlQ.one {lo h : Nat} {u : World} {v : Value} {l : List (Int × Int)} (H : SlQ lo h u v l) (hne : 0 < l.length) : ∃ b, lo ≤ b ∧ b < h ∧ b < u.heap.size ∧ SlQ b (b + 1) u v l := by
  obtain ⟨A, c, hv, hk⟩ := H
  obtain ⟨b, hA, h1, h2, h3, -⟩ := hk 0 (l[0]) (by simp [hne])
  refine ⟨b, h1, h2, World.block_lt_of_cell? u _ h3, A, c, hv, fun k p hp => ?_⟩
  obtain ⟨b', hA', -, -, g1, g2⟩ := hk k p hp
  rw [hA] at hA'
  cases hA'
  exact ⟨b, hA, Nat.le_refl _, by omega, g1, g2⟩
/-- a row of slices is no row of points -/
theorem own_ne {w : World} {base n : Nat} {T : TypeId} {v : Value} {xs : List Value} {b : Nat} {x : Value} {l : List (Int × Int)} (H : w.ownsRow base T 1 v n xs) (h0 : ∃ A m c, xs[0]? = some (.slice A m c))
    (hs : SlQ b (b + 1) w x l) (hne : 0 < l.length) : some b ≠ v.ownBlock := by
  intro he
  obtain ⟨A, m, c, h0⟩ := h0
  have h1 := H.cells he.symm _ _ h0
  obtain ⟨A', c', hv, hk⟩ := hs
  obtain ⟨b', hA', g1, g2, g3, -⟩ := hk 0 (l[0]) (by simp [hne])
  have hb : b' = b := by omega
  subst hb
  have e : (⟨b', 0, none⟩ : Addr).add 0 = ⟨b', 0 + 0 * 2, none⟩ := by unfold Addr.add; split <;> simp_all
  rw [e, g3] at h1
  cases h1
theorem Blk.grown {w u u' : World} {L : List (Nat × Array Value × TypeId)} {row : Option Nat} (h : Blk w u L) (hg : u.grownBy u' row) (hne : ∀ (i : Nat) (x : Nat × Array Value × TypeId), L[i]? = some x → some x.1 ≠ row) (hrow : ∀ g, row = some g → w.heap.size ≤ g) : Blk w u' L :=
  ⟨fun i x hx => (hg.block x.1 (lt_of_some (h.known i x hx)) (hne i x hx)).trans (h.known i x hx), row_below h.hb hg hrow h.hb.size⟩
theorem HolQ.own {w : World} {base : Nat} {T : TypeId} {v : Value} {xs : List Value} {H : List (List (Int × Int))} (hown : w.ownsRow base T 1 v H.length xs)
    (hqs : ∀ (j : Nat) (x : List (Int × Int)), j < H.length → H[j]? = some x → ∃ y b, xs[j]? = some y ∧ b < w.heap.size ∧ SlQ b (b + 1) w y x) : HolQ w v H := by
  rcases id hown.2 with ⟨rfl, h0⟩ | ⟨g, cap, cur, rfl, _⟩
  · have : H = [] := List.eq_nil_of_length_eq_zero h0
    subst this
    exact ⟨none, 0, rfl, fun k p hp => by simp at hp⟩
  · refine ⟨_, _, rfl, fun k x hx => ?_⟩
    have hkl : k < H.length := by
      rcases Nat.lt_or_ge k H.length with h | h
      · exact h
      · rw [List.getElem?_eq_none h] at hx; cases hx
    obtain ⟨y, b, e1, e2, e3⟩ := hqs k x hkl hx
    have a1 := hown.cells (g := g) rfl _ _ e1
    have e : (⟨g, 0, none⟩ : Addr).add k = ⟨g, k, none⟩ := by unfold Addr.add; split <;> simp_all
    rw [e] at a1
    exact ⟨g, y, rfl, a1, b, b + 1, e2, e3⟩
end PF
namespace Go.Proofs.YtlchljkmipejdaaGreat
open Go.RowKit PF JR
theorem SerP.wide {closed : Bool} {l : List (Int × Int)} {r0 r1 r2 r3 : Nat} {T : TypeId} {lo hi lo' hi' b : Nat} {w : World} (H : SerP closed l r0 r1 r2 r3 T lo hi b w) (h1 : lo' ≤ lo) (h2 : hi ≤ hi') : SerP closed l r0 r1 r2 r3 T lo' hi' b w := by
  obtain ⟨cv, cw, v', g1, g2, g3, g4⟩ := H
  exact ⟨cv, cw, v', by omega, by omega, g3, g4.wide h1 h2⟩
theorem RgsV.wide {lo hi lo' hi' : Nat} {w : World} {v : Value} {H : List (List (Int × Int))} (h : RgsV lo hi w v H) (h1 : lo' ≤ lo) (h2 : hi ≤ hi') : RgsV lo' hi' w v H := by
  obtain ⟨A, c, hv, hk⟩ := h
  refine ⟨A, c, hv, fun k x hx => ?_⟩
  obtain ⟨b, y, g1, g5, g6, g2, g4⟩ := hk k x hx
  exact ⟨b, y, g1, by omega, by omega, g2, g4.wide h1 h2⟩
theorem PolV.wide {lo hi lo' hi' : Nat} {w : World} {n : Nat} {l : List (Int × Int)} {H : List (List (Int × Int))} (h : PolV lo hi w n l H) (h1 : lo' ≤ lo) (h2 : hi ≤ hi') : PolV lo' hi' w n l H := by
  obtain ⟨ve, vs, g1, g2, g3, g4, g5⟩ := h
  exact ⟨ve, vs, by omega, by omega, g3, g4.wide h1 h2, g5.wide h1 h2⟩
/-- block n holds a line -/
def LinV (lo hi : Nat) (w : World) (n : Nat) (l : List (Int × Int)) : Prop := SerP false l (fb (box l).1) (fb (box l).2.1) (fb (box l).2.2.1) (fb (box l).2.2.2) 106 lo hi n w
theorem infoSp : (Tryz.prog.info? 95).map (fun i => (i.zero, i.size, i.bytes)) = some (some (.slice none 0 0), 1, 24) := by kernel_rfl

set_option maxRecDepth 100000 in
set_option maxHeartbeats 1000000 in
theorem shaped2_c (l : List (Int × Int)) (h : okL false l) (ob : Nat) (v vh : Value) (w : World)
    (hob : w.heap[ob]? = some (.cells #[.int .u8 0, .int .i64 0] 101 (0, 0))) (hv : SlP w v l) :
    Calls Tryz.prog 19 #[.agg #[.int .i64 2, v, vh], .pointer (some ⟨ob, 0, none⟩)] w fun e w' => ∃ n : Nat, e = .returned (.iface 71 (.pointer (some ⟨n, 0, none⟩))) ∧ LinV w.heap.size w'.heap.size w' n l ∧ Below w.heap.size w w' := by
  have st0 := (Blk.nil w).push rfl #[.int .i64 2, v, vh] 27
  have s0 := hv.below st0.hb
  have hob1 := (st0.hb.block ob (lt_of_some hob)).trans hob
  go_enter Tryz.func19, Tryz.ntmps19
  go_wp2_with (go_at_call 49; refine JR.StopM.out ?_)
  refine ⟨?_⟩
  refine (pts_c l (by have := h.2.2.1; omega) v _ s0).mono ?_
  rintro e w1 ⟨v1, rfl, hq, hb⟩
  have st1 := st0.ext hb
  have hob2 := (hb.block ob (lt_of_some hob1)).trans hob1
  clear hb s0 hob1 hv
  go_wp2_with (go_at_call 48; refine JR.StopM.out ?_)
  refine ⟨?_⟩
  have hL := line_c l h ob v1 _ _ w1 (Nat.le_refl _) hob2 hq
  refine hL.mono ?_
  rintro e w2 ⟨b, rfl, hs, hb⟩
  have st2 := st1.ext hb
  have hsz := st1.hb.size
  clear hb hL hq st1 st0 hob2
  go_wp2
  go_ret
  exact ⟨b, rfl, hs.wide hsz (Nat.le_refl _), st2.hb⟩

set_option maxRecDepth 100000 in
set_option maxHeartbeats 2000000 in
theorem shaped3_c (l : List (Int × Int)) (H : List (List (Int × Int))) (h : okL true l) (hH : ∀ x ∈ H, okL true x) (hm : H.length ≤ 1000) (ob : Nat) (v vh : Value) (w : World)
    (hob : w.heap[ob]? = some (.cells #[.int .u8 0, .int .i64 0] 101 (0, 0))) (hv : SlP w v l) (hh : SlH w vh H) :
    Calls Tryz.prog 19 #[.agg #[.int .i64 3, v, vh], .pointer (some ⟨ob, 0, none⟩)] w fun e w' => ∃ n : Nat, e = .returned (.iface 74 (.pointer (some ⟨n, 0, none⟩))) ∧ PolV w.heap.size w'.heap.size w' n l H ∧ Below w.heap.size w w' := by
  obtain ⟨i0, hi, hz0, hz1, hz2⟩ := info_parts infoSp
  obtain ⟨A, c, rfl, hk⟩ := hh
  have st0 := (Blk.nil w).push rfl #[.int .i64 3, v, .slice A H.length c] 27
  have hone : v.oneCell' = true := by obtain ⟨A', c', hv', -⟩ := hv; rw [hv']; rfl
  go_enter Tryz.func19, Tryz.ntmps19
  go_wp2
  go_loopw [5, 32] (fun vo i wr => ∃ k : Nat, k ≤ H.length ∧ i = .int .i64 k ∧ ∃ xs : List Value, wr.ownsRow (w.heap.size + 1) 95 1 vo k xs ∧
    (∀ (j : Nat) (x : List (Int × Int)), j < k → H[j]? = some x → ∃ y b, xs[j]? = some y ∧ b < wr.heap.size ∧ SlQ b (b + 1) wr y x) ∧ Blk w wr [(w.heap.size, #[.int .i64 3, v, .slice A H.length c], 27)]) (fun _ i _ => H.length - (intOf i).toNat)
  case atStart => exact ⟨0, Nat.zero_le _, rfl, [], World.ownsRow_nil _ _ _ _, fun j x hj => absurd hj (Nat.not_lt_zero _), st0⟩
  case round =>
    clear st0
    obtain ⟨k, hkl, rfl, xs, hown, hqs, hB⟩ := hrel
    have hw0 := hB.lt 0 rfl
    rcases Nat.lt_or_ge k H.length with hlt | hge
    · obtain ⟨x, hx⟩ : ∃ x, H[k]? = some x := ⟨H[k], by simp [hlt]⟩
      obtain ⟨bb, off, y, rfl, h1, h2⟩ := hk k x hx
      have okx := hH x (List.mem_of_getElem? hx)
      have gy := (hB.hb.cell (World.block_lt_of_cell? w _ h1)).trans h1
      have gp := h2.below hB.hb
      have hlt' : (k : Int) < (H.length : Int) := by omega
      have hnx : ∀ x, x ∈ H → 0 < x.length := fun x hx => by have := (hH x hx).1; omega
      clear h1 h2 hk
      go_wp2_with (go_at_call 49; refine JR.StopM.out ?_)
      refine ⟨?_⟩
      refine (pts_c x (by have := okx.2.2.1; omega) y _ gp).mono ?_
      rintro e w1 ⟨v1, rfl, hq, hb⟩
      have ho2 := hown.kept (Ext.grown hb none) (own_none _)
      have hB1 := hB.ext hb
      have hs1 := hb.size
      have hltv := fun g hg => hown.lt g hg
      obtain ⟨b1, q1, q2, q3, hq1⟩ := hq.one (by have := okx.1; omega)
      obtain ⟨A1, c1, rfl⟩ := hq.len
      have hqs1 : ∀ (j : Nat) (x : List (Int × Int)), j < k → H[j]? = some x → ∃ y b, xs[j]? = some y ∧ b < wr.heap.size ∧ SlQ b (b + 1) w1 y x := by
        intro j x' hj hx'
        obtain ⟨y', b', e1, e2, e3⟩ := hqs j x' hj hx'
        exact ⟨y', b', e1, e2, e3.below hb⟩
      clear hb gp gy hq hqs
      go_wp2_with (at_builtin; refine wpList_append_own _ rfl _ _ 97 rfl (w.heap.size + 1) 95 i0 (.slice none 0 0) 1 24 Tryz.underlying97 hi hz0 hz1 hz2 rfl (by decide) _ _ _ rfl (ho2.alloc _) ⟨w1.heap.size, 0, none⟩ 1 1 [.slice A1 x.length c1] rfl rfl ?c1 ?c2 ?c3 ?c4 ?c5 ?_)
      case c1 => exact row_cells (heap_alloc_new w1 _)
      case c2 => intro u hu; simp at hu; subst hu; rfl
      case c3 => unfold maxLen; omega
      case c4 => omega
      case c5 => have := hB1.hb.size; have := hB1.lt 0 rfl; simp; omega
      intro v' w2 hown' hgrow _
      have h00 : 0 < k → ∃ A m c, xs[0]? = some (.slice A m c) := by
        intro hk0
        obtain ⟨y0, b0, e1, e2, e3⟩ := hqs1 0 (H[0]'(by omega)) hk0 (by simp)
        obtain ⟨A', c', e4⟩ := e3.len
        exact ⟨A', _, c', by rw [e1, e4]⟩
      have hxl : xs.length = k := by have := hown.1; omega
      have hgs : w1.heap.size + 1 ≤ w2.heap.size := by simpa using hgrow.size
      have hqs2 : ∀ (j : Nat) (x2 : List (Int × Int)), j < k + 1 → H[j]? = some x2 → ∃ y b, (xs ++ [Value.slice A1 x.length c1])[j]? = some y ∧ b < w2.heap.size ∧ SlQ b (b + 1) w2 y x2 := by
        intro j x' hj hx'
        by_cases hjk : j = k
        · subst hjk
          rw [hx] at hx'
          cases hx'
          refine ⟨.slice A1 x.length c1, b1, by rw [List.getElem?_append_right (by omega)]; simp [hxl], by omega, hq1.keep' fun b h1 h2 h3 => ?_⟩
          have hbb : b = b1 := by omega
          subst hbb
          exact (hgrow.block b (by simp; omega) (fun he => by have := (hltv _ he.symm).2; omega)).trans (Below.heap_alloc w1 _ b h3)
        · obtain ⟨y', b', e1, e2, e3⟩ := hqs1 j x' (by omega) hx'
          refine ⟨y', b', by rw [List.getElem?_append_left (by omega)]; exact e1, by omega, e3.keep' fun b h1 h2 h3 => ?_⟩
          have hbb : b = b' := by omega
          subst hbb
          exact (hgrow.block b (by simp; omega) (own_ne ho2 (h00 (by omega)) e3 (hnx x' (List.mem_of_getElem? hx')))).trans (Below.heap_alloc w1 _ b h3)
      have hB2 := (hB1.push rfl #[.slice A1 x.length c1] 95).tail.grown hgrow (fun i z hz => by
        rcases i with _ | i <;> simp at hz
        subst hz
        intro he
        have := (hltv _ he.symm).1
        simp at this
        omega) (fun g hg => by have := (hltv g hg).1; omega)
      clear hqs1 h00 hgrow ho2 hown hB hB1 hltv hq1
      go_wp2
      go_roundw
      case rel => exact ⟨k + 1, by omega, by go_num, _, hown', hqs2, hB2⟩
      case measure => simp [intOf]; omega
    · have hkk : k = H.length := by omega
      subst hkk
      have hol := HolQ.own hown hqs
      have sp := hv.below hB.hb
      have hobr := (hB.hb.block ob (lt_of_some hob)).trans hob
      have z1 := hB.cell 0 rfl 1
      simp only [List.getElem?_toArray, List.getElem?_cons_zero, List.getElem?_cons_succ] at z1
      clear hk hown hqs
      go_wp2_with (go_at_call 49; refine JR.StopM.out ?_)
      refine ⟨?_⟩
      refine (pts_c l (by have := h.2.2.1; omega) v _ sp).mono ?_
      rintro e w1 ⟨v1, rfl, hq, hb⟩
      have st1 := hB.ext hb
      have hol1 := hol.below hb
      have hob2 := (hb.block ob (lt_of_some hobr)).trans hobr
      clear hb hB sp hobr hol
      go_wp2_with (go_at_call 50; refine JR.StopM.out ?_)
      refine ⟨?_⟩
      have hP := newPoly_c l H h hH hm ob v1 u5 _ _ w1 (Nat.le_refl _) hob2 hq hol1
      refine hP.mono ?_
      rintro e w2 ⟨n, rfl, hs, hb⟩
      have st2 := st1.ext hb
      have hsz := st1.hb.size
      clear hb hP hq st1 hob2 hol1
      go_wp2
      go_ret
      exact ⟨n, rfl, hs.wide hsz (Nat.le_refl _), st2.hb⟩
end Go.Proofs.YtlchljkmipejdaaGreat
