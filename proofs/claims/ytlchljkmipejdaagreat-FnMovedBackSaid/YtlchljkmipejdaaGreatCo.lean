import Derived.Test.YtlchljkmipejdaaGreatIv
set_option linter.unusedSimpArgs false
set_option linter.unusedVariables false
namespace Go.Proofs.YtlchljkmipejdaaGreat
open Go.RowKit PF JR

set_option maxHeartbeats 1000000 in
theorem corner_c (K : Int) (l : List (Int × Int)) (k : Nat) (p : Int × Int) (hp : l[k]? = some p) (hl : l.length ≤ 2147483647) (v vh : Value) (w : World) (hv : SlP w v l) :
    Calls Tryz.prog 47 #[.agg #[.int .i64 K, v, vh], .int .i64 k] w fun e w' => e = .returned (.agg #[.int .i64 p.1, .int .i64 p.2]) ∧ Below w.heap.size w w' := by
  obtain ⟨A, c, rfl, hk⟩ := hv
  obtain ⟨b, off, rfl, h1, h2⟩ := hk k p hp
  have hlt : k < l.length := by
    rcases Nat.lt_or_ge k l.length with h | h
    · exact h
    · rw [List.getElem?_eq_none h] at hp; cases hp
  have st0 := ((Blk.nil w).push rfl #[.int .i64 K, .slice (some ⟨b, off, none⟩) l.length c, vh] 27).push (b := w.heap.size + 1) (by simp) #[.int .i64 0, .int .i64 0] 32
  have g1 := (st0.hb.cell (World.block_lt_of_cell? w _ h1)).trans h1
  have g2 := (st0.hb.cell (World.block_lt_of_cell? w _ h2)).trans h2
  have d1 : (k : Int) < (l.length : Int) := by omega
  have d2 := decide_eq_true d1
  clear hk h1 h2 hp
  go_enter Tryz.func47, Tryz.ntmps47
  go_wp2
  exact bodyPost_ret (v := .agg #[.int .i64 p.1, .int .i64 p.2]) (by simp [results, Tryz.results47, go_sem]) rfl ⟨rfl, by
    repeat first | exact st0.hb | refine Below.setCell ?_ (by show w.heap.size ≤ w.heap.size + 1; omega) _ | exact Below.refl _ _ | refine Below.alloc ?_ (by simp <;> omega) _⟩

theorem ptRect_c (x y : Nat) (w : World) : Calls Tryz.prog 112 #[.agg #[fl x, fl y]] w fun e w' => e = .returned (.agg #[fl x, fl y, fl x, fl y]) ∧ Below w.heap.size w w' := by
  go_enter Tryz.func112, Tryz.ntmps112
  go_wp2
  exact bodyPost_ret (v := .agg #[fl x, fl y, fl x, fl y]) (by simp [results, Tryz.results112, go_sem]) rfl ⟨rfl, (((Below.refl _ _).alloc (Nat.le_refl _) _).alloc (by simp) _)⟩

theorem rcRect_c (x y z t : Nat) (w : World) : Calls Tryz.prog 117 #[.agg #[fl x, fl y, fl z, fl t]] w fun e w' => e = .returned (.agg #[fl x, fl y, fl z, fl t]) ∧ Below w.heap.size w w' := by
  go_enter Tryz.func117, Tryz.ntmps117
  go_wp2
  exact bodyPost_ret (v := .agg #[fl x, fl y, fl z, fl t]) (by simp [results, Tryz.results117, go_sem]) rfl ⟨rfl, (((Below.refl _ _).alloc (Nat.le_refl _) _).alloc (by simp) _)⟩

theorem ptEmpty_c (x y : Nat) (w : World) : Calls Tryz.prog 107 #[.agg #[fl x, fl y]] w fun e w' => e = .returned (.bool false) ∧ Below w.heap.size w w' := by
  go_enter Tryz.func107, Tryz.ntmps107
  go_wp2
  go_ret
  exact ⟨rfl, by first | exact (Below.refl _ _).alloc (Nat.le_refl _) _ | exact Below.refl _ _⟩

/-- a shape that is a point -/
theorem shaped0_c (x y : Int) (v vh o : Value) (w : World) (hv : SlP w v [(x, y)]) :
    Calls Tryz.prog 19 #[.agg #[.int .i64 0, v, vh], o] w fun e w' => e = .returned (.iface 60 (.agg #[fl (fb x), fl (fb y)])) ∧ Below w.heap.size w w' := by
  have st0 := (Blk.nil w).push rfl #[.int .i64 0, v, vh] 27
  have s0 := hv.below st0.hb
  have hl := hv.len
  obtain ⟨A, c, rfl⟩ := hl
  clear hv
  go_enter Tryz.func19, Tryz.ntmps19
  go_wp2_with (first | (go_at_call 47; refine (corner_c 0 [(x, y)] 0 (x, y) rfl (by simp) _ _ _ s0).mono ?_; rintro e w1 ⟨rfl, hb⟩) | (go_at_call 33; refine (pt_c x y _).mono ?_; rintro e w2 ⟨rfl, hc⟩))
  go_ret
  exact ⟨rfl, st0.hb.trans ((hb.trans (hc.mono hb.size)).mono (by simp))⟩

set_option maxHeartbeats 1000000 in
/-- a shape that is a rectangle -/
theorem shaped1_c (X0 Y0 X1 Y1 : Int) (v vh o : Value) (w : World) (hv : SlP w v [(X0, Y0), (X1, Y1)]) :
    Calls Tryz.prog 19 #[.agg #[.int .i64 1, v, vh], o] w fun e w' => e = .returned (.iface 62 (.agg #[fl (fb X0), fl (fb Y0), fl (fb X1), fl (fb Y1)])) ∧ Below w.heap.size w w' := by
  have st0 := (Blk.nil w).push rfl #[.int .i64 1, v, vh] 27
  have s0 := hv.below st0.hb
  have hl := hv.len
  obtain ⟨A, c, hvv⟩ := hl
  have hvv' : v = .slice A 2 c := hvv
  subst hvv'
  clear hv hvv
  have c0 := st0.cell 0 rfl 0
  have c1 := st0.cell 0 rfl 1
  have c2 := st0.cell 0 rfl 2
  simp only [List.getElem?_toArray, List.getElem?_cons_zero, List.getElem?_cons_succ] at c0 c1 c2
  go_enter Tryz.func19, Tryz.ntmps19
  go_wp2
  refine wp_region_K [] [.val (.agg #[.int .i64 1, .slice A 2 c, vh]),
      .val (.agg #[.int .i64 X0, .int .i64 Y0]),
      .val (.agg #[.int .i64 1, .slice A 2 c, vh]),
      .val (.agg #[.int .i64 X1, .int .i64 Y1]),
      .val (.agg #[.int .i64 X0, .int .i64 Y0, .int .i64 X1, .int .i64 Y1]),
      .val (.agg #[fl (fb X0), fl (fb Y0), fl (fb X1), fl (fb Y1)]),
      .val (.iface 62 (.agg #[fl (fb X0), fl (fb Y0), fl (fb X1), fl (fb Y1)])),
      .val (.iface 62 (.agg #[fl (fb X0), fl (fb Y0), fl (fb X1), fl (fb Y1)]))]
    [[.ini 2], [.frm 0 12], [.ini 2], [.frm 2 14], [.frm 1 13, .frm 3 15], [.frm 4 16], [.frm 5 17], [.frm 6 18]]
    mixed (by kernel_rfl) (by kernel_rfl) (allPre_of ⟨trivial, trivial, trivial, trivial, trivial, trivial, trivial, trivial, trivial⟩)
    ⟨OpOk.quiet rfl ?_,
      OpOk.call rfl ?_,
      OpOk.quiet rfl ?_,
      OpOk.call rfl ?_,
      OpOk.quiet rfl ?_,
      OpOk.call rfl ?_,
      OpOk.quiet rfl ?_,
      OpOk.quiet rfl ?_, trivial⟩ ?_
  · intro a u hG hf
    simp [facts, Need.fact, Act.eval] at hf
    have hc := True.intro
    have y0 := (hG.cell (p := ⟨w.heap.size, 0, none⟩) (st0.lt 0 rfl) (by simp)).trans c0
    have y1 := (hG.cell (p := ⟨w.heap.size, 1, none⟩) (st0.lt 0 rfl) (by simp)).trans c1
    have y2 := (hG.cell (p := ⟨w.heap.size, 2, none⟩) (st0.lt 0 rfl) (by simp)).trans c2

    go_simp
  · intro a u hG hf
    simp [facts, Need.fact, Ent.val, Act.eval] at hf
    have s1 := s0.below (Keep.below hG)
    have hcr : Calls Tryz.prog 47 #[.agg #[.int .i64 1, .slice A 2 c, vh], .int .i64 0] u fun e w' => e = .returned (.agg #[.int .i64 X0, .int .i64 Y0]) ∧ Below u.heap.size u w' := corner_c 1 [(X0, Y0), (X1, Y1)] 0 (X0, Y0) rfl (by simp) _ _ _ s1
    refine ⟨_, _, by go_simp, hcr.mono ?_⟩
    rintro e w' ⟨rfl, hb⟩
    exact ⟨_, rfl, hb, rfl⟩
  · intro a u hG hf
    simp [facts, Need.fact, Act.eval] at hf
    have hc := True.intro
    have y0 := (hG.cell (p := ⟨w.heap.size, 0, none⟩) (st0.lt 0 rfl) (by simp)).trans c0
    have y1 := (hG.cell (p := ⟨w.heap.size, 1, none⟩) (st0.lt 0 rfl) (by simp)).trans c1
    have y2 := (hG.cell (p := ⟨w.heap.size, 2, none⟩) (st0.lt 0 rfl) (by simp)).trans c2

    go_simp
  · intro a u hG hf
    simp [facts, Need.fact, Ent.val, Act.eval] at hf
    have s1 := s0.below (Keep.below hG)
    have hcr : Calls Tryz.prog 47 #[.agg #[.int .i64 1, .slice A 2 c, vh], .int .i64 1] u fun e w' => e = .returned (.agg #[.int .i64 X1, .int .i64 Y1]) ∧ Below u.heap.size u w' := corner_c 1 [(X0, Y0), (X1, Y1)] 1 (X1, Y1) rfl (by simp) _ _ _ s1
    refine ⟨_, _, by go_simp, hcr.mono ?_⟩
    rintro e w' ⟨rfl, hb⟩
    exact ⟨_, rfl, hb, rfl⟩
  · intro a u _ hf
    simp [facts, Need.fact, Ent.val, Act.eval] at hf
    go_simp
  · intro a u _ hf
    simp [facts, Need.fact, Ent.val, Act.eval] at hf
    refine ⟨_, _, by go_simp, (rect_c X0 Y0 X1 Y1 _).mono ?_⟩
    rintro e w' ⟨rfl, hb⟩
    exact ⟨_, rfl, hb, rfl⟩
  · intro a u _ hf
    simp [facts, Need.fact, Ent.val, Act.eval] at hf
    go_simp
  · intro a u _ hf
    simp [facts, Need.fact, Ent.val, Act.eval] at hf
    go_simp
  intro u lw hw wc hK hE hI hD
  simp [allE, Ent.val] at hE
  obtain ⟨u0, u1, u2, u3, u4, u5, u6, u7⟩ := hE
  simp only [allPut, Act.put, u0, u2, u4, u5, u6, u7]
  clear u0 u2 u4 u5 u6 u7
  have hB := Keep.belowX (B := w.heap.size) hK st0.hb st0.hb.size (by simp)
  clear hK hI hD c0 c1 c2 s0 st0
  try simp only [List.setIfInBounds_toArray, List.set_cons_zero, List.set_cons_succ]
  go_wp2
  go_ret
  exact ⟨rfl, hB⟩
end Go.Proofs.YtlchljkmipejdaaGreat
