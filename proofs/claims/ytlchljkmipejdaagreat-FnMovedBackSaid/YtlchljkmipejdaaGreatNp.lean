import Derived.Test.YtlchljkmipejdaaGreatNr
import Derived.Test.YtlchljkmipejdaaGreatJd
set_option linter.unusedSimpArgs false
set_option linter.unusedVariables false
/-! NewPoly. -/
namespace PF
open Go Go.RowKit JR
/-- a slice of slices of points of floats -/
def HolQ (w : World) (v : Value) (H : List (List (Int × Int))) : Prop :=
  ∃ A c, v = .slice A H.length c ∧ ∀ k h, H[k]? = some h → ∃ b x, A = some ⟨b, 0, none⟩ ∧ w.cell? ⟨b, k, none⟩ = some x ∧ ∃ lo hi, hi ≤ w.heap.size ∧ SlQ lo hi w x h
theorem HolQ.below {w w' : World} {v : Value} {H : List (List (Int × Int))} (h : HolQ w v H) (hb : Below w.heap.size w w') : HolQ w' v H := by
  obtain ⟨A, c, hv, hk⟩ := h
  refine ⟨A, c, hv, fun k x hx => ?_⟩
  obtain ⟨b, y, h1, h2, lo, hi, h3, h4⟩ := hk k x hx
  exact ⟨b, y, h1, (hb.cell (World.block_lt_of_cell? w _ h2)).trans h2, lo, hi, Nat.le_trans h3 hb.size, h4.below hb⟩
end PF
namespace Go.Proofs.YtlchljkmipejdaaGreat
open Go.RowKit PF JR
/-- a slice of rings -/
def RgsV (lo hi : Nat) (w : World) (v : Value) (H : List (List (Int × Int))) : Prop :=
  ∃ A c, v = .slice A H.length c ∧ ∀ k h, H[k]? = some h → ∃ b x, A = some ⟨b, 0, none⟩ ∧ lo ≤ b ∧ b < hi ∧ w.cell? ⟨b, k, none⟩ = some x ∧ RngV lo hi w x h
theorem RgsV.keep {lo hi : Nat} {w w' : World} {v : Value} {H : List (List (Int × Int))} (h : RgsV lo hi w v H) (hb : ∀ k, lo ≤ k → k < hi → k < w.heap.size → w'.heap[k]? = w.heap[k]?) : RgsV lo hi w' v H := by
  obtain ⟨A, c, hv, hk⟩ := h
  refine ⟨A, c, hv, fun k x hx => ?_⟩
  obtain ⟨b, y, h1, h5, h6, h2, h4⟩ := hk k x hx
  exact ⟨b, y, h1, h5, h6, (World.cell?_of_block (hb b h5 h6 (World.block_lt_of_cell? w _ h2))).trans h2, h4.keep hb⟩
/-- block n holds a polygon; its blocks are from number lo up to hi -/
def PolV (lo hi : Nat) (w : World) (n : Nat) (l : List (Int × Int)) (H : List (List (Int × Int))) : Prop :=
  ∃ ve vs, lo ≤ n ∧ n < hi ∧ w.heap[n]? = some (.cells #[ve, vs] 80 (0, 0)) ∧ RngV lo hi w ve l ∧ RgsV lo hi w vs H
theorem PolV.keep {lo hi : Nat} {w w' : World} {n : Nat} {l : List (Int × Int)} {H : List (List (Int × Int))} (h : PolV lo hi w n l H) (hb : ∀ k, lo ≤ k → k < hi → k < w.heap.size → w'.heap[k]? = w.heap[k]?) : PolV lo hi w' n l H := by
  obtain ⟨ve, vs, g1, g2, h1, h2, h3⟩ := h
  exact ⟨ve, vs, g1, g2, (hb n g1 g2 (lt_of_some h1)).trans h1, h2.keep hb, h3.keep hb⟩
theorem PolV.below {lo hi : Nat} {w w' : World} {n : Nat} {l : List (Int × Int)} {H : List (List (Int × Int))} (h : PolV lo hi w n l H) (hb : Below w.heap.size w w') : PolV lo hi w' n l H :=
  h.keep fun k _ _ h3 => hb.block k h3
def PoP (l : List (Int × Int)) (H : List (List (Int × Int))) (w : World) (e : Ending) (w' : World) : Prop :=
  ∃ n : Nat, e = .returned (.pointer (some ⟨n, 0, none⟩)) ∧ PolV w.heap.size w'.heap.size w' n l H ∧ Below w.heap.size w w'
/-- a ring, as an operation gives it -/
def _root_.JR.Ent.rng (l : List (Int × Int)) : Ent := .rel (fun v lo hi w => RngV lo hi w v l) (fun _ _ _ _ _ hk H => H.keep fun k h1 h2 _ => hk k h1 h2)
theorem infoSr : (Tryz.prog.info? 77).map (fun i => (i.zero, i.size, i.bytes)) = some (some .nilIface, 1, 16) := by kernel_rfl

set_option maxRecDepth 100000 in
set_option maxHeartbeats 2000000 in
theorem newPoly_c (l : List (Int × Int)) (H : List (List (Int × Int))) (h : okL true l) (hH : ∀ x ∈ H, okL true x) (hm : H.length ≤ 1000) (ob : Nat) (v vh : Value) (lo hb0 : Nat) (w : World) (hhb : hb0 ≤ w.heap.size)
    (hob : w.heap[ob]? = some (.cells #[.int .u8 0, .int .i64 0] 101 (0, 0))) (hv : SlQ lo hb0 w v l) (hvh : HolQ w vh H) :
    Calls Tryz.prog 50 #[v, vh, .pointer (some ⟨ob, 0, none⟩)] w (PoP l H w) := by
  obtain ⟨A, c, hvv, hk⟩ := hvh
  subst hvv
  obtain ⟨i0, hi, hz0, hz1, hz2⟩ := info_parts infoSr
  have hmk : ∀ u : World, (Instr.makeSlice 78 (.int .i64 H.length) (.int .i64 H.length)).run Tryz.prog u = .ok (.slice (some ⟨u.heap.size, 0, none⟩) H.length H.length) (u.alloc (.cells (madeCells #[.nilIface] (H.length * 1)) 77)) := by
    intro u
    have := run_make (P := Tryz.prog) u 78 77 i0 .nilIface Tryz.underlying78 hi hz0 .i64 .i64 H.length H.length (by omega) (by omega) (by rw [hz2]; omega) (by omega)
    rw [hz1] at this
    have e : (Value.nilIface).cells = #[.nilIface] := rfl
    rw [e] at this
    simpa using this
  have st0 := (Blk.nil w).push rfl #[.nilIface, .slice none 0 0] 80
  go_enter Tryz.func50, Tryz.ntmps50
  go_wp2_with (go_at_call 57; refine JR.StopM.out ?_)
  refine ⟨?_⟩
  have hob1 := (st0.hb.block ob (lt_of_some hob)).trans hob
  refine (ring_c l h ob v lo hb0 _ (by simp; omega) hob1 (hv.below st0.hb)).mono ?_
  rintro e w1 ⟨ve, rfl, hve, hb⟩
  have st1 := st0.ext hb
  clear hb st0 hob1
  have x0 := st1.cell 0 rfl 0
  have x1 := st1.cell 0 rfl 1
  have xf := fun o => st1.frozen 0 rfl o
  simp only [List.getElem?_toArray, List.getElem?_cons_zero, List.getElem?_cons_succ] at x0 x1
  obtain ⟨be, rfl, hse⟩ := hve
  have hve : RngV (w.heap.size + 1) w1.heap.size w1 (.iface 107 (.pointer (some ⟨be, 0, none⟩))) l := ⟨be, rfl, by simpa using hse⟩
  clear hse
  rcases Nat.eq_zero_or_pos H.length with h0 | h0
  · have hd : ¬ (0 : Int) < (H.length : Int) := by omega
    have hH0 : H = [] := List.eq_nil_of_length_eq_zero h0
    have hd' := decide_eq_false hd
    clear hmk hk hH hm hob hv h0
    go_wp2
    go_ret
    have p0 := st1.put (o := 0) (v := .iface 107 (.pointer (some ⟨be, 0, none⟩))) 0 rfl ⟨.inl rfl, trivial⟩ (Nat.le_refl _)
    have hn := p0.known 0 _ rfl
    have hlt := p0.lt 0 rfl
    refine ⟨w.heap.size, rfl, ⟨_, _, Nat.le_refl _, hlt, hn, ?_, ?_⟩, p0.hb⟩
    · refine (hve.keep fun k h1 h2 h3 => Below.heap_setCell _ _ _ _ (by show k ≠ w.heap.size; omega)).wide (by omega) (by simp)
    · subst hH0
      exact ⟨none, 0, rfl, fun k x hx => by simp at hx⟩
  · have hd : (0 : Int) < (H.length : Int) := by omega
    have hd' := decide_eq_true hd
    have hlt0 := st1.lt 0 rfl
    have hne0 : w.heap.size ≠ w1.heap.size := Nat.ne_of_lt hlt0
    go_wp2
    have p0 := st1.put (o := 0) (v := .iface 107 (.pointer (some ⟨be, 0, none⟩))) 0 rfl ⟨.inl rfl, trivial⟩ (Nat.le_refl _)
    have p1 := p0.put (o := 1) (v := .slice (some ⟨w1.heap.size, 0, none⟩) H.length H.length) 0 rfl ⟨.inl rfl, trivial⟩ (Nat.le_refl _)
    have p2 := p1.push (b := w1.heap.size) (by simp) (madeCells #[.nilIface] H.length) 77
    have hsz := size_madeCells #[.nilIface] H.length
    have hve2 := hve.keep (w' := ((w1.setCell ⟨w.heap.size, 0, none⟩ (.iface 107 (.pointer (some ⟨be, 0, none⟩)))).setCell ⟨w.heap.size, 1, none⟩ (.slice (some ⟨w1.heap.size, 0, none⟩) H.length H.length)).alloc (.cells (madeCells #[.nilIface] H.length) 77))
      (fun k h1 h2 h3 => (Below.heap_alloc _ _ k (by simp; omega)).trans ((Below.heap_setCell _ _ _ _ (by show k ≠ w.heap.size; omega)).trans (Below.heap_setCell _ _ _ _ (by show k ≠ w.heap.size; omega))))
    go_loopw [27] (fun i wr => ∃ k : Nat, k ≤ H.length ∧ i = .int .i64 k ∧ ∃ cs : Array Value, cs.size = H.length ∧ Blk w wr [(w1.heap.size, cs, 77), (w.heap.size, #[.iface 107 (.pointer (some ⟨be, 0, none⟩)), .slice (some ⟨w1.heap.size, 0, none⟩) H.length H.length], 80)]
      ∧ RngV (w.heap.size + 1) w1.heap.size wr (.iface 107 (.pointer (some ⟨be, 0, none⟩))) l ∧ ∀ (j : Nat) (x : List (Int × Int)), j < k → H[j]? = some x → ∃ y, cs[j]? = some y ∧ RngV (w1.heap.size + 1) wr.heap.size wr y x) (fun i _ => H.length - (intOf i).toNat)
    case atStart => exact ⟨0, Nat.zero_le _, rfl, _, by rw [hsz], p2, hve2, fun j x hj => absurd hj (Nat.not_lt_zero _)⟩
    case round =>
      clear p0 p1 p2 hve2 hsz x0 x1 xf st1 hve hmk
      obtain ⟨k, hkl, rfl, cs, hcs, hB, hvr, hrs⟩ := hrel
      rcases Nat.lt_or_ge k H.length with hlt | hge
      · obtain ⟨x, hx⟩ : ∃ x, H[k]? = some x := ⟨H[k], by simp [hlt]⟩
        obtain ⟨bb, y, rfl, h1, lo1, hi1, hh, gs⟩ := hk k x hx
        have okx := hH x (List.mem_of_getElem? hx)
        have hBs := hB.hb.size
        have hh1 : hi1 ≤ wr.heap.size := by omega
        have hbb := World.block_lt_of_cell? w _ h1
        simp only at hbb
        have gy := (hB.hb.cell hbb).trans h1
        have gs := gs.below hB.hb
        have go := (hB.hb.block ob (lt_of_some hob)).trans hob
        have hob' := lt_of_some hob
        have hrow := hB.known 0 _ rfl
        have hlt' : (k : Int) < (H.length : Int) := by omega
        have z1 := hB.cell 1 rfl 1
        simp only [List.getElem?_toArray, List.getElem?_cons_zero, List.getElem?_cons_succ] at z1
        have hw1 : w.heap.size < w1.heap.size := hlt0
        have hw2 := hB.lt 0 rfl
        clear hk h1 hob
        go_wp2
        refine wp_region_K [w1.heap.size] [.val (.pointer (some ⟨w.heap.size, 0, none⟩)),
            .val (.pointer (some ⟨w.heap.size, 0, none⟩)),
            .val (.pointer (some ⟨w.heap.size, 1, none⟩)),
            .val (.slice (some ⟨w1.heap.size, 0, none⟩) H.length H.length),
            .val (.int .i64 k),
            .val (.slice (some ⟨bb, 0, none⟩) H.length c),
            .val (.int .i64 k),
            .val (.pointer (some ⟨bb, k, none⟩)),
            .val (y),
            .val (.pointer (some ⟨ob, 0, none⟩)),
            .rng x,
            .val (.pointer (some ⟨w1.heap.size, k, none⟩)),
            .turnS w1.heap.size cs k 40 77]
          [[.ini 7], [.frm 0 30], [.frm 1 31], [.frm 2 32], [.ini 8], [.ini 1], [.ini 8], [.frm 5 35, .frm 6 36], [.frm 7 37], [.ini 2], [.frm 8 38, .frm 9 39], [.frm 3 33, .frm 4 34], [.frm 11 41, .frm 10 40, .til 12]]
          mixed (by kernel_rfl) (by kernel_rfl) (allPre_of ⟨trivial, trivial, trivial, trivial, trivial, trivial, trivial, trivial, trivial, trivial, trivial, trivial, hrow, trivial⟩)
          ⟨OpOk.quiet rfl ?_,
            OpOk.quiet rfl ?_,
            OpOk.quiet rfl ?_,
            OpOk.quiet rfl ?_,
            OpOk.quiet rfl ?_,
            OpOk.quiet rfl ?_,
            OpOk.quiet rfl ?_,
            OpOk.quiet rfl ?_,
            OpOk.quiet rfl ?_,
            OpOk.quiet rfl ?_,
            OpOk.call rfl ?_,
            OpOk.quiet rfl ?_,
            OpOk.turnS rfl rfl (lt_of_some hrow) ⟨row_still rfl, row_still rfl, row_still rfl, row_still rfl, row_still rfl, row_still rfl, row_still rfl, row_still rfl, row_still rfl, row_still rfl, row_none rfl (fun h => (nomatch h)), row_still rfl, row_self rfl, trivial⟩ (oldFree_of ⟨.inr (fun h => (nomatch h)), .inr (fun h => (nomatch h)), .inr (fun h => (nomatch h)), .inr (fun h => (nomatch h)), .inr (fun h => (nomatch h)), .inr (fun h => (nomatch h)), .inr (fun h => (nomatch h)), .inr (fun h => (nomatch h)), .inr (fun h => (nomatch h)), .inr (fun h => (nomatch h)), .inr (fun h => (nomatch h)), .inr (fun h => (nomatch h)), .inl rfl, trivial⟩) (by kernel_rfl) (by omega) ?_ (fun _ _ h => Keep.setRow h (.inr (by simp))), trivial⟩ ?_
        · intro a u _ hf
          simp [facts, Need.fact, Act.eval] at hf
          go_simp
        · intro a u _ hf
          simp [facts, Need.fact, Ent.val, Act.eval] at hf
          go_simp
        · intro a u _ hf
          simp [facts, Need.fact, Ent.val, Act.eval] at hf
          go_simp
        · intro a u hG hf
          simp [facts, Need.fact, Ent.val, Act.eval] at hf
          have hc := fun (o : Nat) => hG.cell (p := ⟨w.heap.size, o, none⟩) (by show w.heap.size < _; omega) (by simp; omega)
          have hc2 := fun (o : Nat) => hG.cell (p := ⟨bb, o, none⟩) (by show bb < _; omega) (by simp; omega)
          go_simp
        · intro a u _ hf
          simp [facts, Need.fact, Act.eval] at hf
          go_simp
        · intro a u _ hf
          simp [facts, Need.fact, Act.eval] at hf
          go_simp
        · intro a u _ hf
          simp [facts, Need.fact, Act.eval] at hf
          go_simp
        · intro a u _ hf
          simp [facts, Need.fact, Ent.val, Act.eval] at hf
          go_simp
        · intro a u hG hf
          simp [facts, Need.fact, Ent.val, Act.eval] at hf
          have hc := fun (o : Nat) => hG.cell (p := ⟨w.heap.size, o, none⟩) (by show w.heap.size < _; omega) (by simp; omega)
          have hc2 := fun (o : Nat) => hG.cell (p := ⟨bb, o, none⟩) (by show bb < _; omega) (by simp; omega)
          go_simp
        · intro a u _ hf
          simp [facts, Need.fact, Act.eval] at hf
          go_simp
        · intro a u hG hf
          simp [facts, Need.fact, Ent.val, Act.eval] at hf
          have g3 := (hG.block ob (lt_of_some go) (by simp; omega)).trans go
          have g4 := gs.keep' (fun b _ h2 h3 => hG.block b h3 (by simp; omega))
          refine ⟨_, _, by go_simp, (ring_c x okx ob y lo1 hi1 _ (Nat.le_trans hh1 hG.size) g3 g4).mono ?_⟩
          rintro e w' ⟨v', rfl, hr, hb⟩
          exact ⟨_, rfl, hb, hr⟩
        · intro a u _ hf
          simp [facts, Need.fact, Ent.val, Act.eval] at hf
          go_simp
        · intro a u _ hf
          obtain ⟨⟨_, _, f1⟩, ⟨_, _, f2⟩, f3, -⟩ := hf
          obtain ⟨b2, f2, -⟩ := f2
          exact ⟨f1, by rw [f2]; rfl, f3⟩
        intro u lw hw wc hK hE hI hD
        simp [allE, Ent.rng, Ent.turnS, Ent.val] at hE
        obtain ⟨u0, u1, u2, u3, u4, u5, u6, u7, u8, u9, e10, u11, e12⟩ := hE
        simp only [allPut, Act.put, u0, u1, u2, u3, u4, u5, u6, u7, u8, u9, u11]
        clear u0 u1 u2 u3 u4 u5 u6 u7 u8 u9 u11

        simp [allPut, Act.put, Act.eval] at e12
        replace e10 : RngV (lw 10) (hw 10) wc (u 10) x := e10
        have i10 := hI 10 (by show 10 < 13; omega)
        try simp only [List.setIfInBounds_toArray, List.set_cons_zero, List.set_cons_succ]
        generalize u 10 = y10 at *
        have hB2 := (hB.tail.keep hK (fun i x hx => by rcases i with _ | i <;> simp at hx <;> subst hx <;> simp <;> omega) (by intro z hz; simp at hz; omega)).add e12
        have hvr2 := hvr.keep (w' := wc) (fun k h1 h2 h3 => hK.block k h3 (by simp; omega))
        have hrs2 : ∀ (j : Nat) (x : List (Int × Int)), j < k + 1 → H[j]? = some x → ∃ y, (cs.setIfInBounds k y10)[j]? = some y ∧ RngV (w1.heap.size + 1) wc.heap.size wc y x := by
          intro j x' hj hx'
          by_cases hjk : j = k
          · subst hjk
            rw [hx] at hx'
            cases hx'
            exact ⟨y10, by rw [Array.getElem?_setIfInBounds, if_pos rfl, if_pos (by omega)], e10.wide (by omega) i10.1⟩
          · obtain ⟨y', hy1, hy2⟩ := hrs j x' (by omega) hx'
            exact ⟨y', by rw [Array.getElem?_setIfInBounds_ne (by omega)]; exact hy1, (hy2.keep (fun k h1 h2 h3 => hK.block k h3 (by simp; omega))).wide (Nat.le_refl _) hK.size⟩
        clear hK hI hD e10 e12 i10 hrow gy gs go z1 hB hvr hrs hx okx hH
        go_wp2
        go_roundw
        case rel => exact ⟨k + 1, by omega, by go_num, _, by simp; exact hcs, hB2, hvr2, hrs2⟩
        case measure => simp [intOf]; omega
      · have hkk : k = H.length := by omega
        subst hkk
        have hn := hB.known 1 _ rfl
        have hlt := hB.lt 1 rfl
        have hltr := hB.lt 0 rfl
        have hcell := fun k => hB.cell 0 rfl k
        clear hk hH
        go_wp2
        go_ret
        refine ⟨w.heap.size, rfl, ⟨_, _, Nat.le_refl _, hlt, hn, hvr.wide (by omega) (by omega), ⟨_, _, rfl, fun k x hx => ?_⟩⟩, hB.hb⟩
        have hkl : k < H.length := by
          rcases Nat.lt_or_ge k H.length with h | h
          · exact h
          · rw [List.getElem?_eq_none h] at hx; cases hx
        obtain ⟨y, hy1, hy2⟩ := hrs k x hkl hx
        exact ⟨_, y, rfl, by omega, hltr, (hcell k).trans hy1, hy2.wide (by omega) (Nat.le_refl _)⟩
end Go.Proofs.YtlchljkmipejdaaGreat
