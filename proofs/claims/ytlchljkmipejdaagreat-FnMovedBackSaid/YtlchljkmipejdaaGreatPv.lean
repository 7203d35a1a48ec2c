import Derived.Test.YtlchljkmipejdaaGreatMb
import Derived.Test.YtlchljkmipejdaaGreatVs
import Derived.Test.YtlchljkmipejdaaGreatNp
import Derived.Test.YtlchljkmipejdaaGreatJd
set_option linter.unusedSimpArgs false
set_option linter.unusedVariables false
/-! plainSeries: the points of a series, as whole numbers. -/
namespace Go.Proofs.YtlchljkmipejdaaGreat
open Go.RowKit PF JR
theorem mBsNum (v : Value) (w : World) : (method 287 107 v "NumPoints").run Tryz.prog w = .ok (127, v) w := by kernel_rfl
theorem mBsAt (v : Value) (w : World) : (method 287 107 v "PointAt").run Tryz.prog w = .ok (128, v) w := by kernel_rfl
theorem mLiNum (n : Nat) (w : World) : (method 287 71 (.pointer (some ⟨n, 0, none⟩)) "NumPoints").run Tryz.prog w = .ok (127, .pointer (some ⟨n, 0, none⟩)) w := by kernel_rfl
theorem mLiAt (n : Nat) (w : World) : (method 287 71 (.pointer (some ⟨n, 0, none⟩)) "PointAt").run Tryz.prog w = .ok (128, .pointer (some ⟨n, 0, none⟩)) w := by kernel_rfl

theorem nump_c (cs : Array Value) (T : TypeId) (b n c : Nat) (A : Option Addr) (w : World) (h : w.heap[b]? = some (.cells cs T (0, 0))) (h9 : cs[9]? = some (.slice A n c)) :
    Calls Tryz.prog 127 #[.pointer (some ⟨b, 0, none⟩)] w fun e w' => e = .returned (.int .i64 n) ∧ w' = w := by
  have x9 := (cellAt h 9).trans h9
  go_enter Tryz.func127, Tryz.ntmps127
  go_wp2
  go_ret
  exact ⟨rfl, rfl⟩

theorem ptAt_c (cs : Array Value) (T : TypeId) (b : Nat) (l : List (Int × Int)) (vs : Value) (k : Nat) (p : Int × Int) (hp : l[k]? = some p) (lo hi : Nat) (w : World) (h : w.heap[b]? = some (.cells cs T (0, 0))) (h9 : cs[9]? = some vs) (hv : SlQ lo hi w vs l) :
    Calls Tryz.prog 128 #[.pointer (some ⟨b, 0, none⟩), .int .i64 k] w fun e w' => e = .returned (.agg #[fl (fb p.1), fl (fb p.2)]) ∧ Below w.heap.size w w' := by
  obtain ⟨A, c, rfl, hk⟩ := hv
  obtain ⟨bb, rfl, -, -, g1, g2⟩ := hk k p hp
  have hkl : k < l.length := by
    rcases Nat.lt_or_ge k l.length with h | h
    · exact h
    · rw [List.getElem?_eq_none h] at hp; cases hp
  have hlt : (k : Int) < (l.length : Int) := by omega
  have st0 := (Blk.nil w).push rfl #[fl 0, fl 0] 60
  have x9 := ((st0.hb.cell (p := ⟨b, 9, none⟩) (lt_of_some h)).trans (cellAt h 9)).trans h9
  have y1 := (st0.hb.cell (World.block_lt_of_cell? w _ g1)).trans g1
  have y2 := (st0.hb.cell (World.block_lt_of_cell? w _ g2)).trans g2
  rw [Nat.zero_add] at y1 y2
  clear hk g1 g2 h h9 hp
  go_enter Tryz.func128, Tryz.ntmps128
  go_wp2
  exact bodyPost_ret (v := .agg #[fl (fb p.1), fl (fb p.2)]) (by simp [results, Tryz.results128, go_sem]) rfl ⟨rfl, by
    repeat first | exact Below.refl _ _ | refine Below.alloc ?_ (by simp <;> omega) _ | refine Below.setCell ?_ (by simp <;> omega) _⟩

set_option maxRecDepth 100000 in
set_option maxHeartbeats 2000000 in
theorem plainS_c (TI : TypeId) (b : Nat) (hm1 : ∀ w, (method 287 TI (.pointer (some ⟨b, 0, none⟩)) "NumPoints").run Tryz.prog w = .ok (127, .pointer (some ⟨b, 0, none⟩)) w)
    (hm2 : ∀ w, (method 287 TI (.pointer (some ⟨b, 0, none⟩)) "PointAt").run Tryz.prog w = .ok (128, .pointer (some ⟨b, 0, none⟩)) w)
    (l : List (Int × Int)) (hl : l.length ≤ 1000) (hb : ∀ p ∈ l, p.1.natAbs ≤ 2000000 ∧ p.2.natAbs ≤ 2000000) (closed : Bool) (r0 r1 r2 r3 : Nat) (T : TypeId) (lo hi : Nat) (w : World) (hs : SerP closed l r0 r1 r2 r3 T lo hi b w) :
    Calls Tryz.prog 27 #[.iface TI (.pointer (some ⟨b, 0, none⟩))] w fun e w' => ∃ v', e = .returned v' ∧ SlR w.heap.size w'.heap.size w' v' l ∧ Below w.heap.size w w' := by
  obtain ⟨cv, cw, vs, -, -, g3, g4⟩ := hs
  obtain ⟨A, c, hvs⟩ := g4.len
  subst hvs
  obtain ⟨i0, hi', hz0, hz1, hz2⟩ := info_parts infoP
  go_enter Tryz.func27, Tryz.ntmps27
  go_wp2
  go_loopw [3, 4] (fun v i wr => ∃ k : Nat, k ≤ l.length ∧ i = .int .i64 k ∧ wr.ownsRow w.heap.size 32 2 v k (cellsP (l.take k)) ∧ Below w.heap.size w wr) (fun _ i _ => l.length - (intOf i).toNat)
  case atStart => exact ⟨0, Nat.zero_le _, rfl, World.ownsRow_nil _ _ _ _, Below.refl _ _⟩
  case round =>
    obtain ⟨k, hkl, rfl, hown, hnx⟩ := hrel
    have hsz := hnx.size
    have g3' := (hnx.block b (lt_of_some g3)).trans g3
    have g4' := g4.below hnx
    have hnp := nump_c _ _ b l.length c A wr g3' rfl
    go_wp2_with (go_at_call 127; refine JR.StopM.out ?_)
    refine ⟨?_⟩
    refine hnp.mono ?_
    rintro e w1 ⟨rfl, rfl⟩
    clear hnp
    rcases Nat.lt_or_ge k l.length with hlt | hge
    · obtain ⟨p, hp⟩ : ∃ p, l[k]? = some p := ⟨l[k], by simp [hlt]⟩
      have hpb := hb p (List.mem_of_getElem? hp)
      have hpa := ptAt_c _ _ b l _ k p hp lo hi _ g3' rfl g4'
      have hlt' : (k : Int) < (l.length : Int) := by omega
      have hfr := fun u => from_c (fb_rep p.1 (by omega)) (fb_rep p.2 (by omega)) u
      clear g3 g4 g3' g4'
      go_wp2_with (go_at_call 128; refine JR.StopM.out ?_)
      refine ⟨?_⟩
      refine hpa.mono ?_
      rintro e w2 ⟨rfl, hb2⟩
      go_wp2_with (go_at_call 24; refine JR.StopM.out ?_)
      refine ⟨?_⟩
      refine (hfr _).mono ?_
      rintro e w3 ⟨rfl, hb3⟩
      have hc := hb2.trans (hb3.mono hb2.size)
      have ho2 := hown.kept (Ext.grown hc none) (own_none _)
      clear hpa hfr hb2 hb3
      go_wp2_with (at_builtin; refine wpList_append_own _ rfl _ _ 24 rfl w.heap.size 32 i0 (.agg #[.int .i64 0, .int .i64 0]) 2 16 Tryz.underlying24 hi' hz0 hz1 hz2 rfl (by decide) _ _ _ rfl (ho2.alloc _) ⟨w3.heap.size, 0, none⟩ 1 1 [.int .i64 p.1, .int .i64 p.2] rfl rfl ?c1 ?c2 ?c3 ?c4 ?c5 ?_)
      case c1 => exact new_cells _ _ _ _
      case c2 => intro u hu; simp at hu; rcases hu with rfl | rfl <;> rfl
      case c3 => unfold maxLen; omega
      case c4 => omega
      case c5 => have := hc.size; simp at this ⊢; omega
      intro v' w4 hown' hgrow _
      have hs1 : w.heap.size ≤ w3.heap.size := by have := hc.size; omega
      have hB := row_below ((hnx.trans (hc.mono hsz)).alloc hs1 _) hgrow (fun g hg => (ho2.lt g hg).1) (by simp; omega)
      rw [← cellsP_snoc _ k _ hp] at hown'
      clear hgrow ho2 hc hown hnx
      go_wp2
      go_roundw
      case rel => exact ⟨k + 1, by omega, by go_num, hown', hB⟩
      case measure => simp [intOf]; omega
    · have hkk : k = l.length := by omega
      subst hkk
      rw [List.take_length] at hown
      clear g3 g4 g3' g4'
      go_wp2
      go_ret
      exact ⟨_, rfl, SlR.own hown (Nat.le_refl _), hnx⟩
end Go.Proofs.YtlchljkmipejdaaGreat
/-! Poly.Move. -/
namespace Go.Proofs.YtlchljkmipejdaaGreat
open Go.RowKit PF JR
theorem rngMove_c (l : List (Int × Int)) (h : okL true l) (dx dy : Int) (hd : dx.natAbs ≤ 1000000 ∧ dy.natAbs ≤ 1000000) (hm : okL true (l.map (mvp dx dy))) (hl63 : l.length < 64) (lo hi b : Nat) (w : World) (hs : RngV lo hi w (.iface 107 (.pointer (some ⟨b, 0, none⟩))) l) :
    Calls Tryz.prog 52 #[.pointer (some ⟨b, 0, none⟩), fl (fb dx), fl (fb dy)] w fun e w' => ∃ v', e = .returned v' ∧ RngV w.heap.size w'.heap.size w' v' (l.map (mvp dx dy)) ∧ Below w.heap.size w w' := by
  obtain ⟨b', e, hs⟩ := hs
  cases e
  refine (bsMove_c true l h dx dy hd hm hl63 _ _ _ _ lo hi b _ w hs).mono ?_
  rintro e w' ⟨n, rfl, hs, hb⟩
  exact ⟨_, rfl, ⟨n, rfl, hs⟩, hb⟩

set_option maxRecDepth 100000 in
set_option maxHeartbeats 2000000 in
theorem polMove_c (l : List (Int × Int)) (H : List (List (Int × Int))) (h : okL true l) (hH : ∀ x ∈ H, okL true x) (hm : H.length ≤ 1000) (dx dy : Int) (hd : dx.natAbs ≤ 1000000 ∧ dy.natAbs ≤ 1000000) (hlm : okL true (l.map (mvp dx dy))) (hHm : ∀ x ∈ H, okL true (x.map (mvp dx dy))) (hl63 : l.length < 64) (hH63 : ∀ x ∈ H, x.length < 64)
    (lo hi n0 : Nat) (w : World) (hp : PolV lo hi w n0 l H) :
    Calls Tryz.prog 29 #[.pointer (some ⟨n0, 0, none⟩), fl (fb dx), fl (fb dy)] w (PoP (l.map (mvp dx dy)) (H.map (fun x => x.map (mvp dx dy))) w) := by
  obtain ⟨ve, vs, -, -, hn0, hve0, ⟨A, c, rfl, hk⟩⟩ := hp
  obtain ⟨be0, rfl, -⟩ := id hve0
  obtain ⟨i0, hi', hz0, hz1, hz2⟩ := info_parts infoSr
  have hmk : ∀ u : World, (Instr.makeSlice 78 (.int .i64 H.length) (.int .i64 H.length)).run Tryz.prog u = .ok (.slice (some ⟨u.heap.size, 0, none⟩) H.length H.length) (u.alloc (.cells (madeCells #[.nilIface] (H.length * 1)) 77)) := by
    intro u
    have := run_make (P := Tryz.prog) u 78 77 i0 .nilIface Tryz.underlying78 hi' hz0 .i64 .i64 H.length H.length (by omega) (by omega) (by rw [hz2]; omega) (by omega)
    rw [hz1] at this
    have e : (Value.nilIface).cells = #[.nilIface] := rfl
    rw [e] at this
    simpa using this
  have st0 := (Blk.nil w).push rfl #[.nilIface, .slice none 0 0] 80
  have s0 := cellAt hn0 0
  have s1 := cellAt hn0 1
  simp only [List.getElem?_toArray, List.getElem?_cons_zero, List.getElem?_cons_succ] at s0 s1
  have hn0l := lt_of_some hn0
  have ha := asBsT
  have hrm := rngMove_c l h dx dy hd hlm hl63 lo hi be0 _ (hve0.below st0.hb)
  go_enter Tryz.func29, Tryz.ntmps29
  go_wp2_with (go_at_call 52; refine JR.StopM.out ?_)
  refine ⟨?_⟩
  refine hrm.mono ?_
  rintro e w1 ⟨ve, rfl, hve, hb⟩
  have st1 := st0.ext hb
  have hn1 := (st1.hb.block n0 hn0l).trans hn0
  clear hb st0 hrm s0 s1
  have s1 := cellAt hn1 1
  have x0 := st1.cell 0 rfl 0
  have x1 := st1.cell 0 rfl 1
  have xf := fun o => st1.frozen 0 rfl o
  simp only [List.getElem?_toArray, List.getElem?_cons_zero, List.getElem?_cons_succ] at x0 x1 s1
  have hnn : n0 ≠ w.heap.size := Nat.ne_of_lt hn0l
  obtain ⟨be, rfl, hse⟩ := hve
  have hve : RngV (w.heap.size + 1) w1.heap.size w1 (.iface 107 (.pointer (some ⟨be, 0, none⟩))) (l.map (mvp dx dy)) := ⟨be, rfl, by simpa using hse⟩
  clear hse
  rcases Nat.eq_zero_or_pos H.length with h0 | h0
  · have hd0 : ¬ (0 : Int) < (H.length : Int) := by omega
    have hH0 : H = [] := List.eq_nil_of_length_eq_zero h0
    have hd' := decide_eq_false hd0
    clear hmk hk hH hHm hH63 hm h0
    go_wp2
    go_ret
    have p0 := st1.put (o := 0) (v := .iface 107 (.pointer (some ⟨be, 0, none⟩))) 0 rfl ⟨.inl rfl, trivial⟩ (Nat.le_refl _)
    have hn := p0.known 0 _ rfl
    have hlt := p0.lt 0 rfl
    refine ⟨w.heap.size, rfl, ⟨_, _, Nat.le_refl _, hlt, hn, ?_, ?_⟩, p0.hb⟩
    · refine (hve.keep fun k h1 h2 h3 => Below.heap_setCell _ _ _ _ (by show k ≠ w.heap.size; omega)).wide (by omega) (by simp)
    · subst hH0
      exact ⟨none, 0, rfl, fun k x hx => by simp at hx⟩
  · have hd0 : (0 : Int) < (H.length : Int) := by omega
    have hd' := decide_eq_true hd0
    have hlt0 := st1.lt 0 rfl
    have hne0 : w.heap.size ≠ w1.heap.size := Nat.ne_of_lt hlt0
    have hne1 : n0 ≠ w1.heap.size := by omega
    have hn0l1 : n0 < w1.heap.size := by omega
    go_wp2
    have p0 := st1.put (o := 0) (v := .iface 107 (.pointer (some ⟨be, 0, none⟩))) 0 rfl ⟨.inl rfl, trivial⟩ (Nat.le_refl _)
    have p1 := p0.put (o := 1) (v := .slice (some ⟨w1.heap.size, 0, none⟩) H.length H.length) 0 rfl ⟨.inl rfl, trivial⟩ (Nat.le_refl _)
    have p2 := p1.push (b := w1.heap.size) (by simp) (madeCells #[.nilIface] H.length) 77
    have hsz := size_madeCells #[.nilIface] H.length
    have hve2 := hve.keep (w' := ((w1.setCell ⟨w.heap.size, 0, none⟩ (.iface 107 (.pointer (some ⟨be, 0, none⟩)))).setCell ⟨w.heap.size, 1, none⟩ (.slice (some ⟨w1.heap.size, 0, none⟩) H.length H.length)).alloc (.cells (madeCells #[.nilIface] H.length) 77))
      (fun k h1 h2 h3 => (Below.heap_alloc _ _ k (by simp; omega)).trans ((Below.heap_setCell _ _ _ _ (by show k ≠ w.heap.size; omega)).trans (Below.heap_setCell _ _ _ _ (by show k ≠ w.heap.size; omega))))
    go_loopw [74] (fun i wr => ∃ k : Nat, k ≤ H.length ∧ i = .int .i64 k ∧ ∃ cs : Array Value, cs.size = H.length ∧ Blk w wr [(w1.heap.size, cs, 77), (w.heap.size, #[.iface 107 (.pointer (some ⟨be, 0, none⟩)), .slice (some ⟨w1.heap.size, 0, none⟩) H.length H.length], 80)]
      ∧ RngV (w.heap.size + 1) w1.heap.size wr (.iface 107 (.pointer (some ⟨be, 0, none⟩))) (l.map (mvp dx dy)) ∧ ∀ (j : Nat) (x : List (Int × Int)), j < k → H[j]? = some x → ∃ y, cs[j]? = some y ∧ RngV (w1.heap.size + 1) wr.heap.size wr y (x.map (mvp dx dy))) (fun i _ => H.length - (intOf i).toNat)
    case atStart => exact ⟨0, Nat.zero_le _, rfl, _, by rw [hsz], p2, hve2, fun j x hj => absurd hj (Nat.not_lt_zero _)⟩
    case round =>
      clear p0 p1 p2 hve2 hsz x0 x1 xf s1 st1 hve hmk
      obtain ⟨k, hkl, rfl, cs, hcs, hB, hvr, hrs⟩ := hrel
      rcases Nat.lt_or_ge k H.length with hlt | hge
      · obtain ⟨x, hx⟩ : ∃ x, H[k]? = some x := ⟨H[k], by simp [hlt]⟩
        obtain ⟨bb, y, rfl, -, -, h1, hrg⟩ := hk k x hx
        obtain ⟨b2, rfl, -⟩ := id hrg
        have okx := hH x (List.mem_of_getElem? hx)
        have okm := hHm x (List.mem_of_getElem? hx)
        have hx63 := hH63 x (List.mem_of_getElem? hx)
        have hBs := hB.hb.size
        have hbb := World.block_lt_of_cell? w _ h1
        simp only at hbb
        have gy := (hB.hb.cell hbb).trans h1
        have hrow := hB.known 0 _ rfl
        have hlt' : (k : Int) < (H.length : Int) := by omega
        have z1 := hB.cell 1 rfl 1
        simp only [List.getElem?_toArray, List.getElem?_cons_zero, List.getElem?_cons_succ] at z1
        have hw1 : w.heap.size < w1.heap.size := hlt0
        have hw2 := hB.lt 0 rfl
        have hXw : ∀ z ∈ [w1.heap.size], w.heap.size ≤ z := by intro z hz; simp at hz; omega
        clear hk h1
        go_wp2
        refine wp_region_K [w1.heap.size] [.val (.pointer (some ⟨w.heap.size, 0, none⟩)),
            .val (.pointer (some ⟨w.heap.size, 0, none⟩)),
            .val (.pointer (some ⟨w.heap.size, 1, none⟩)),
            .val (.slice (some ⟨w1.heap.size, 0, none⟩) H.length H.length),
            .val (.int .i64 k),
            .val (.pointer (some ⟨b2, 0, none⟩)),
            .val (fl (fb dx)),
            .val (fl (fb dy)),
            .rng (x.map (mvp dx dy)),
            .val (.pointer (some ⟨w1.heap.size, k, none⟩)),
            .turnS w1.heap.size cs k 93 77]
          [[.ini 7], [.frm 0 85], [.frm 1 86], [.frm 2 87], [.ini 11], [.ini 13], [.ini 1], [.ini 2], [.frm 5 90, .frm 6 91, .frm 7 92], [.frm 3 88, .frm 4 89], [.frm 9 94, .frm 8 93, .til 10]]
          mixed (by kernel_rfl) (by kernel_rfl) (allPre_of ⟨trivial, trivial, trivial, trivial, trivial, trivial, trivial, trivial, trivial, trivial, hrow, trivial⟩)
          ⟨OpOk.quiet rfl ?_,
            OpOk.quiet rfl ?_,
            OpOk.quiet rfl ?_,
            OpOk.quiet rfl ?_,
            OpOk.quiet rfl ?_,
            OpOk.quiet rfl ?_,
            OpOk.quiet rfl ?_,
            OpOk.quiet rfl ?_,
            OpOk.call rfl ?_,
            OpOk.quiet rfl ?_,
            OpOk.turnS rfl rfl (lt_of_some hrow) ⟨row_still rfl, row_still rfl, row_still rfl, row_still rfl, row_still rfl, row_still rfl, row_still rfl, row_still rfl, row_none rfl (fun h => (nomatch h)), row_still rfl, row_self rfl, trivial⟩ (oldFree_of ⟨.inr (fun h => (nomatch h)), .inr (fun h => (nomatch h)), .inr (fun h => (nomatch h)), .inr (fun h => (nomatch h)), .inr (fun h => (nomatch h)), .inr (fun h => (nomatch h)), .inr (fun h => (nomatch h)), .inr (fun h => (nomatch h)), .inr (fun h => (nomatch h)), .inr (fun h => (nomatch h)), .inl rfl, trivial⟩) (by kernel_rfl) (by omega) ?_ (fun _ _ h => Keep.setRow h (.inr (by simp))), trivial⟩ ?_
        · intro a u _ hf
          simp [facts, Need.fact, Act.eval] at hf
          go_simp
        · intro a u _ hf
          simp [facts, Need.fact, Ent.val, Act.eval] at hf
          go_simp
        · intro a u _ hf
          simp [facts, Need.fact, Ent.val, Act.eval] at hf
          go_simp
        · intro a u hG hf
          simp [facts, Need.fact, Ent.val, Act.eval] at hf
          have hc := fun (o : Nat) => hG.cell (p := ⟨w.heap.size, o, none⟩) (by show w.heap.size < _; omega) (by simp; omega)
          go_simp
        · intro a u _ hf
          simp [facts, Need.fact, Act.eval] at hf
          go_simp
        · intro a u _ hf
          simp [facts, Need.fact, Act.eval] at hf
          go_simp
        · intro a u _ hf
          simp [facts, Need.fact, Act.eval] at hf
          go_simp
        · intro a u _ hf
          simp [facts, Need.fact, Act.eval] at hf
          go_simp
        · intro a u hG hf
          simp [facts, Need.fact, Ent.val, Act.eval] at hf
          have hr1 := hrg.below (Keep.belowX hG hB.hb hB.hb.size hXw)
          refine ⟨_, _, by go_simp, (rngMove_c x okx dx dy hd okm hx63 lo hi b2 _ hr1).mono ?_⟩
          rintro e w' ⟨v', rfl, hr, hb⟩
          exact ⟨_, rfl, hb, hr⟩
        · intro a u _ hf
          simp [facts, Need.fact, Ent.val, Act.eval] at hf
          go_simp
        · intro a u _ hf
          obtain ⟨⟨_, _, f1⟩, ⟨_, _, f2⟩, f3, -⟩ := hf
          obtain ⟨b3, f2, -⟩ := f2
          exact ⟨f1, by rw [f2]; rfl, f3⟩
        intro u lw hw wc hK hE hI hD
        simp [allE, Ent.rng, Ent.turnS, Ent.val] at hE
        obtain ⟨u0, u1, u2, u3, u4, u5, u6, u7, e8, u9, e10⟩ := hE
        simp only [allPut, Act.put, u0, u1, u2, u3, u4, u5, u6, u7, u9]
        clear u0 u1 u2 u3 u4 u5 u6 u7 u9

        simp [allPut, Act.put, Act.eval] at e10
        replace e8 : RngV (lw 8) (hw 8) wc (u 8) (x.map (mvp dx dy)) := e8
        have i8 := hI 8 (by show 8 < 11; omega)
        try simp only [List.setIfInBounds_toArray, List.set_cons_zero, List.set_cons_succ]
        generalize u 8 = y10 at *
        have hB2 := (hB.tail.keep hK (fun i x hx => by rcases i with _ | i <;> simp at hx <;> subst hx <;> simp <;> omega) (by intro z hz; simp at hz; omega)).add e10
        have hvr2 := hvr.keep (w' := wc) (fun k h1 h2 h3 => hK.block k h3 (by simp; omega))
        have hrs2 : ∀ (j : Nat) (x : List (Int × Int)), j < k + 1 → H[j]? = some x → ∃ y, (cs.setIfInBounds k y10)[j]? = some y ∧ RngV (w1.heap.size + 1) wc.heap.size wc y (x.map (mvp dx dy)) := by
          intro j x' hj hx'
          by_cases hjk : j = k
          · subst hjk
            rw [hx] at hx'
            cases hx'
            exact ⟨y10, by rw [Array.getElem?_setIfInBounds, if_pos rfl, if_pos (by omega)], e8.wide (by omega) i8.1⟩
          · obtain ⟨y', hy1, hy2⟩ := hrs j x' (by omega) hx'
            exact ⟨y', by rw [Array.getElem?_setIfInBounds_ne (by omega)]; exact hy1, (hy2.keep (fun k h1 h2 h3 => hK.block k h3 (by simp; omega))).wide (Nat.le_refl _) hK.size⟩
        clear hK hI hD e8 e10 i8 hrow gy z1 hB hvr hrs hx okx okm hH hHm
        go_wp2
        go_roundw
        case rel => exact ⟨k + 1, by omega, by go_num, _, by simp; exact hcs, hB2, hvr2, hrs2⟩
        case measure => simp [intOf]; omega
      · have hkk : k = H.length := by omega
        subst hkk
        have hn := hB.known 1 _ rfl
        have hlt := hB.lt 1 rfl
        have hltr := hB.lt 0 rfl
        have hcell := fun k => hB.cell 0 rfl k
        clear hk hH hHm
        go_wp2
        go_ret
        refine ⟨w.heap.size, rfl, ⟨_, _, Nat.le_refl _, hlt, hn, hvr.wide (by omega) (by omega), ⟨_, H.length, by rw [List.length_map], fun k x hx => ?_⟩⟩, hB.hb⟩
        rw [List.getElem?_map] at hx
        cases hx0 : H[k]? with
        | none => rw [hx0] at hx; cases hx
        | some x0 =>
          rw [hx0] at hx
          cases hx
          have hkl : k < H.length := by
            rcases Nat.lt_or_ge k H.length with h | h
            · exact h
            · rw [List.getElem?_eq_none h] at hx0; cases hx0
          obtain ⟨y, hy1, hy2⟩ := hrs k x0 hkl hx0
          exact ⟨_, y, rfl, by omega, hltr, (hcell k).trans hy1, hy2.wide (by omega) (Nat.le_refl _)⟩
end Go.Proofs.YtlchljkmipejdaaGreat
