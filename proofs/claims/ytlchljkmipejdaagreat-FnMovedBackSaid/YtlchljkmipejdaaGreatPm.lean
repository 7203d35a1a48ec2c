import Derived.Test.YtlchljkmipejdaaGreatNp
import Derived.Test.YtlchljkmipejdaaGreatBv
set_option linter.unusedSimpArgs false
set_option linter.unusedVariables false
/-! The methods of a polygon and of a line. -/
namespace Go.Proofs.YtlchljkmipejdaaGreat
open Go.RowKit PF JR
theorem mBsRect (v : Value) (w : World) : (method 287 107 v "Rect").run Tryz.prog w = .ok (129, v) w := by kernel_rfl
theorem mBsEmpty (v : Value) (w : World) : (method 287 107 v "Empty").run Tryz.prog w = .ok (122, v) w := by kernel_rfl
theorem mBsValid (v : Value) (w : World) : (method 287 107 v "Valid").run Tryz.prog w = .ok (131, v) w := by kernel_rfl
theorem bnd_box {l : List (Int × Int)} (h : ∀ p ∈ l, Bnd p) : ∀ p ∈ l, -1000000 ≤ p.1 ∧ p.1 ≤ 1000000 ∧ -1000000 ≤ p.2 ∧ p.2 ≤ 1000000 := by
  intro p hp
  obtain ⟨h1, h2⟩ := h p hp
  omega
/-- a ring is asked whether it is valid -/
theorem rngValid_c (l : List (Int × Int)) (h : okL true l) (lo hi b : Nat) (w : World) (hv : RngV lo hi w (.iface 107 (.pointer (some ⟨b, 0, none⟩))) l) :
    Calls Tryz.prog 131 #[.pointer (some ⟨b, 0, none⟩)] w (AnyB w) := by
  obtain ⟨b', e, cv, cw, v', -, -, g3, g4⟩ := hv
  cases e
  exact bsValid_c _ l (by have := h.2.2.1; omega) (bnd_box h.2.2.2) v' _ b lo hi w g3 rfl g4

set_option maxRecDepth 100000 in
set_option maxHeartbeats 1000000 in
theorem polRect_c (lo hi n : Nat) (l : List (Int × Int)) (H : List (List (Int × Int))) (w : World) (h : PolV lo hi w n l H) :
    Calls Tryz.prog 142 #[.pointer (some ⟨n, 0, none⟩)] w fun e w' => e = .returned (.agg #[fl (fb (box l).1), fl (fb (box l).2.1), fl (fb (box l).2.2.1), fl (fb (box l).2.2.2)]) ∧ Below w.heap.size w w' := by
  obtain ⟨ve, vs, -, -, hn, ⟨b, rfl, cv, cw, v', -, -, g3, -⟩, -⟩ := h
  have st0 := (((Blk.nil w).add hn).add g3).push rfl #[fl 0, fl 0, fl 0, fl 0] 62
  have x0 := st0.cell 2 rfl 0
  simp only [List.getElem?_toArray, List.getElem?_cons_zero, List.getElem?_cons_succ] at x0
  have hm := mBsRect
  generalize box l = r at *
  go_enter Tryz.func142, Tryz.ntmps142
  go_wp2_with (go_at_call 129; refine JR.StopM.out ?_)
  refine ⟨?_⟩
  refine (bsRect_c true cv cw _ _ _ _ v' _ b _ (st0.known 1 _ rfl)).mono ?_
  rintro e w1 ⟨rfl, hb⟩
  have st1 := st0.ext hb
  clear hb st0
  have d0 := st1.cell 0 rfl 0
  have d1 := st1.cell 0 rfl 1
  have d2 := st1.cell 0 rfl 2
  have d3 := st1.cell 0 rfl 3
  have f0 := fun o => st1.frozen 0 rfl o
  simp only [List.getElem?_toArray, List.getElem?_cons_zero, List.getElem?_cons_succ] at d0 d1 d2 d3
  go_wp2
  exact bodyPost_ret (v := .agg #[fl (fb r.1), fl (fb r.2.1), fl (fb r.2.2.1), fl (fb r.2.2.2)]) (by simp [results, Tryz.results142, go_sem, d0, d1, d2, d3]) rfl ⟨rfl, by
    iterate 4 refine Below.setCell ?_ (by first | exact Nat.le_refl _ | (show w.heap.size ≤ _; omega)) _
    exact st1.hb⟩

set_option maxRecDepth 100000 in
set_option maxHeartbeats 1000000 in
theorem polEmpty_c (lo hi n : Nat) (l : List (Int × Int)) (H : List (List (Int × Int))) (hl : okL true l) (w : World) (h : PolV lo hi w n l H) :
    Calls Tryz.prog 137 #[.pointer (some ⟨n, 0, none⟩)] w fun e w' => e = .returned (.bool false) ∧ Below w.heap.size w w' := by
  obtain ⟨ve, vs, -, -, hn, ⟨b, rfl, cv, cw, v', -, -, g3, g4⟩, -⟩ := h
  obtain ⟨A, c, rfl⟩ := g4.len
  have x0 := cellAt hn 0
  simp only [List.getElem?_toArray, List.getElem?_cons_zero, List.getElem?_cons_succ] at x0
  have hm := mBsEmpty
  have he := bsEmpty_c true cv cw l.length _ _ _ _ A c _ b w g3 (.inl (hl.2.1 rfl))
  clear g3 g4 hn
  go_enter Tryz.func137, Tryz.ntmps137
  go_wp2_with (go_at_call 122; refine JR.StopM.out ?_)
  refine ⟨?_⟩
  refine he.mono ?_
  rintro e w1 ⟨rfl, hb⟩
  clear he
  go_wp2
  go_ret
  exact ⟨rfl, hb⟩

set_option maxRecDepth 100000 in
set_option maxHeartbeats 1000000 in
theorem polValid_c (lo hi n : Nat) (l : List (Int × Int)) (H : List (List (Int × Int))) (hl : okL true l) (hH : ∀ x ∈ H, okL true x) (hm9 : H.length ≤ 1000) (w : World) (h : PolV lo hi w n l H) :
    Calls Tryz.prog 143 #[.pointer (some ⟨n, 0, none⟩)] w (AnyB w) := by
  obtain ⟨ve, vs, -, -, hn, hve, ⟨A, c, rfl, hk⟩⟩ := h
  obtain ⟨b, rfl, -⟩ := id hve
  have x0 := cellAt hn 0
  have x1 := cellAt hn 1
  simp only [List.getElem?_toArray, List.getElem?_cons_zero, List.getElem?_cons_succ] at x0 x1
  have hm := mBsValid
  have hc := rngValid_c l hl lo hi b w hve
  clear hve
  go_enter Tryz.func143, Tryz.ntmps143
  go_wp2_with (go_at_call 131; refine JR.StopM.out ?_)
  refine ⟨?_⟩
  refine hc.mono ?_
  rintro e w1 ⟨ok, rfl, hb⟩
  clear hc x0 x1
  have x1 := cellAt ((hb.block n (lt_of_some hn)).trans hn) 1
  simp only [List.getElem?_toArray, List.getElem?_cons_zero, List.getElem?_cons_succ] at x1
  clear hn
  cases ok with
  | false =>
    clear hk
    go_wp2
    go_ret
    exact ⟨_, rfl, hb⟩
  | true =>
    go_wp2
    go_loopw [16] (fun i wr => ∃ k : Nat, k ≤ H.length ∧ i = .int .i64 k ∧ Below w.heap.size w wr) (fun i _ => H.length - (intOf i).toNat)
    case atStart => exact ⟨0, Nat.zero_le _, rfl, hb⟩
    case round =>
      clear x1 hb
      obtain ⟨k, hkl, rfl, hnx⟩ := hrel
      rcases Nat.lt_or_ge k H.length with hlt | hge
      · obtain ⟨x, hx⟩ : ∃ x, H[k]? = some x := ⟨H[k], by simp [hlt]⟩
        obtain ⟨bb, y, rfl, -, -, h1, h2⟩ := hk k x hx
        obtain ⟨b2, rfl, -⟩ := id h2
        have g1 := (hnx.cell (World.block_lt_of_cell? w _ h1)).trans h1
        have hc := rngValid_c x (hH x (List.mem_of_getElem? hx)) lo hi b2 wr (h2.below hnx)
        have hlt' : (k : Int) < (H.length : Int) := by omega
        clear h1 h2 hk hx hH
        go_wp2_with (go_at_call 131; refine JR.StopM.out ?_)
        refine ⟨?_⟩
        refine hc.mono ?_
        rintro e w2 ⟨ok, rfl, hb⟩
        have hB1 := hnx.trans (hb.mono hnx.size)
        clear hb hc g1 hnx
        cases ok with
        | false =>
          go_wp2
          go_ret
          exact ⟨_, rfl, hB1⟩
        | true =>
          go_wp2
          go_roundw
          case rel => exact ⟨k + 1, by omega, by go_num, hB1⟩
          case measure => simp [intOf]; omega
      · have hkk : k = H.length := by omega
        subst hkk
        clear hk hH
        go_wp2
        go_ret
        exact ⟨_, rfl, hnx⟩

/-- a line is asked whether it is valid -/
theorem linValid_c (l : List (Int × Int)) (h : okL false l) (r0 r1 r2 r3 lo hi b : Nat) (T : TypeId) (w : World) (hv : SerP false l r0 r1 r2 r3 T lo hi b w) :
    Calls Tryz.prog 130 #[.pointer (some ⟨b, 0, none⟩)] w (AnyB w) := by
  obtain ⟨cv, cw, v', -, -, g3, g4⟩ := hv
  have hc := bsValid_c _ l (by have := h.2.2.1; omega) (bnd_box h.2.2.2) v' T b lo hi w g3 rfl g4
  clear g3 g4
  go_enter Tryz.func130, Tryz.ntmps130
  go_wp2_with (go_at_call 131; refine JR.StopM.out ?_)
  refine ⟨?_⟩
  refine hc.mono ?_
  rintro e w1 ⟨ok, rfl, hb⟩
  clear hc
  go_wp2
  go_ret
  exact ⟨_, rfl, hb⟩
end Go.Proofs.YtlchljkmipejdaaGreat
