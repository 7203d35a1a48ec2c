import Derived.Test.YtlchljkmipejdaaGreatCo
import Derived.Test.YtlchljkmipejdaaGreatCr
set_option linter.unusedSimpArgs false
set_option linter.unusedVariables false
namespace JR
open Go Go.RowKit
/-- a pointer to a new block of these cells -/
def Ent.ptrTo (T : TypeId) (cs : Array Value) : Ent :=
  .rel (fun v l h u => ∃ b, v = .pointer (some ⟨b, 0, none⟩) ∧ l ≤ b ∧ b < h ∧ u.heap[b]? = some (.cells cs T (0, 0)))
    (fun _ _ _ _ _ hk ⟨b, h1, h2, h3, h4⟩ => ⟨b, h1, h2, h3, (hk b h2 h3).trans h4⟩)
end JR
namespace Go.Proofs.YtlchljkmipejdaaGreat
open Go.RowKit PF JR

theorem mPtRect (v : Value) (w : World) : (method 287 60 v "Rect").run Tryz.prog w = .ok (112, v) w := by kernel_rfl
theorem mPtEmpty (v : Value) (w : World) : (method 287 60 v "Empty").run Tryz.prog w = .ok (107, v) w := by kernel_rfl
theorem mPtValid (v : Value) (w : World) : (method 287 60 v "Valid").run Tryz.prog w = .ok (56, v) w := by kernel_rfl
theorem mRcRect (v : Value) (w : World) : (method 287 62 v "Rect").run Tryz.prog w = .ok (117, v) w := by kernel_rfl
theorem mRcEmpty (v : Value) (w : World) : (method 287 62 v "Empty").run Tryz.prog w = .ok (37, v) w := by kernel_rfl
theorem mRcValid (v : Value) (w : World) : (method 287 62 v "Valid").run Tryz.prog w = .ok (38, v) w := by kernel_rfl

set_option maxRecDepth 100000 in
set_option maxHeartbeats 1000000 in
theorem ask0_c (x y : Int) (bd : -1000000 ≤ x ∧ x ≤ 1000000 ∧ -1000000 ≤ y ∧ y ≤ 1000000) (v vh : Value) (w : World) (hv : SlP w v [(x, y)]) :
    Calls Tryz.prog 9 #[.agg #[.int .i64 0, v, vh], .int .i64 0, .int .i64 0] w fun e w' => (∃ val : Value, e = .returned (.tuple #[.agg #[.int .i64 x, .int .i64 y, .int .i64 x, .int .i64 y], .bool false, val])) ∧ Below w.heap.size w w' := by
  have st0 := ((Blk.nil w).push rfl #[.int .i64 0, v, vh] 27).push (b := w.heap.size + 1) (by simp) #[.int .i64 0, .int .i64 0, .int .i64 0, .int .i64 0] 33
  have s0 := hv.below st0.hb
  have c0 := st0.cell 1 rfl 0
  have c1 := st0.cell 1 rfl 1
  have c2 := st0.cell 1 rfl 2
  simp only [List.getElem?_toArray, List.getElem?_cons_zero, List.getElem?_cons_succ] at c0 c1 c2
  obtain ⟨A, c, hvv⟩ := hv.len
  have hvv' : v = .slice A 1 c := hvv
  subst hvv'
  clear hv hvv
  go_enter Tryz.func9, Tryz.ntmps9
  go_wp2
  refine wp_region_K [] [.val (.agg #[.int .i64 0, .slice A 1 c, vh]),
      .val (.int .i64 0),
      .val (.int .i64 0),
      .ptrTo 101 #[.int .u8 0, .int .i64 0],
      .val (.iface 60 (.agg #[fl (fb x), fl (fb y)])),
      .val (.iface 60 (.agg #[fl (fb x), fl (fb y)]))]
    [[.ini 3], [.ini 1], [.ini 2], [.frm 1 11, .frm 2 12], [.frm 0 10, .frm 3 13], [.frm 4 14]]
    mixed (by kernel_rfl) (by kernel_rfl) (allPre_of ⟨trivial, trivial, trivial, trivial, trivial, trivial, trivial⟩)
    ⟨OpOk.quiet rfl ?_,
      OpOk.quiet rfl ?_,
      OpOk.quiet rfl ?_,
      OpOk.call rfl ?_,
      OpOk.call rfl ?_,
      OpOk.quiet rfl ?_, trivial⟩ ?_
  · intro a u hG hf
    simp [facts, Need.fact, Act.eval] at hf
    have hc := True.intro
    have y0 := (hG.cell (p := ⟨w.heap.size, 0, none⟩) (st0.lt 1 rfl) (by simp)).trans c0
    have y1 := (hG.cell (p := ⟨w.heap.size, 1, none⟩) (st0.lt 1 rfl) (by simp)).trans c1
    have y2 := (hG.cell (p := ⟨w.heap.size, 2, none⟩) (st0.lt 1 rfl) (by simp)).trans c2

    go_simp
  · intro a u _ hf
    simp [facts, Need.fact, Act.eval] at hf
    go_simp
  · intro a u _ hf
    simp [facts, Need.fact, Act.eval] at hf
    go_simp
  · intro a u hG hf
    simp [facts, Need.fact, Ent.val, Act.eval] at hf
    refine ⟨_, _, by go_simp, (index0_c _).mono ?_⟩
    rintro e w' ⟨rfl, rfl⟩
    exact ⟨_, rfl, Ext.alloc _ _, u.heap.size, rfl, Nat.le_refl _, by simp, alloc_get _ _⟩
  · intro a u hG hf
    simp [facts, Need.fact, Ent.of, Ent.val, Act.eval] at hf
    have s1 := s0.below (Keep.below hG)
    obtain ⟨l5, h5, b, hp, -, -, -⟩ := hf.2
    have hf1 := hf.1
    have hsh := shaped0_c x y (.slice A 1 c) vh (.pointer (some ⟨b, 0, none⟩)) u s1
    refine ⟨_, _, by go_simp, hsh.mono ?_⟩
    rintro e w' ⟨rfl, hb⟩
    exact ⟨_, rfl, hb, rfl⟩
  · intro a u _ hf
    simp [facts, Need.fact, Ent.val, Act.eval] at hf
    go_simp
  intro u lw hw wc hK hE hI hD
  simp [allE, Ent.ptrTo, Ent.val] at hE
  obtain ⟨u0, u1, u2, _, u4, u5⟩ := hE
  simp only [allPut, Act.put, u0, u1, u2, u5]
  clear u0 u1 u2 u5
  generalize u (0 + 1 + 1 + 1 + 1) = e4 at *
  generalize u (0 + 1 + 1 + 1) = e3 at *
  try simp only [List.setIfInBounds_toArray, List.set_cons_zero, List.set_cons_succ]
  have st1 := st0.keep hK (fun i x _ => by simp) (fun x hx => by simp at hx)
  clear hK hI hD c0 c1 c2 s0 st0 u4
  have hm1 := mPtRect
  have hm2 := mPtEmpty
  have hm3 := mPtValid
  have rx := fb_rep x (by omega)
  have ry := fb_rep y (by omega)
  go_wp2_with (go_at_call 112; refine Stop1.out ?_)
  refine ⟨?_⟩
  refine (ptRect_c (fb x) (fb y) _).mono ?_
  rintro e w1 ⟨rfl, hb⟩
  have st2 := st1.ext hb
  clear hb st1
  go_wp2_with (go_at_call 21; refine Stop1.out ?_)
  refine ⟨?_⟩
  refine (corn_c rx ry rx ry (fun h1 h2 w => from_c h1 h2 w) _).mono ?_
  rintro e w2 ⟨rfl, hb⟩
  have st3 := st2.ext hb
  clear hb st2
  go_wp2_with (go_at_call 107; refine Stop1.out ?_)
  refine ⟨?_⟩
  refine (ptEmpty_c (fb x) (fb y) _).mono ?_
  rintro e w3 ⟨rfl, hb⟩
  have st4 := st3.ext hb
  clear hb st3
  go_wp2_with (go_at_call 56; refine Stop1.out ?_)
  refine ⟨?_⟩
  refine (ptv_c rx ry _).mono ?_
  rintro e w4 ⟨rfl, hb⟩
  have st5 := st4.ext hb
  clear hb st4
  have d0 := st5.cell 0 rfl 0
  have d1 := st5.cell 0 rfl 1
  have d2 := st5.cell 0 rfl 2
  have d3 := st5.cell 0 rfl 3
  have f0 := fun o => st5.frozen 0 rfl o
  simp only [List.getElem?_toArray, List.getElem?_cons_zero, List.getElem?_cons_succ] at d0 d1 d2 d3
  go_wp2
  exact bodyPost_ret (v := .tuple #[.agg #[.int .i64 x, .int .i64 y, .int .i64 x, .int .i64 y], .bool false, .bool (decide (-180 ≤ x) && (decide (x ≤ 180) && (decide (-90 ≤ y) && decide (y ≤ 90))))]) (by simp [results, Tryz.results9, go_sem, d0, d1, d2, d3]) rfl ⟨⟨_, rfl⟩, by
    iterate 4 refine Below.setCell ?_ (by show w.heap.size ≤ w.heap.size + 1; omega) _
    exact st5.hb⟩

set_option maxRecDepth 100000 in
set_option maxHeartbeats 1000000 in
theorem ask1_c (X0 Y0 X1 Y1 : Int) (bd : -1000000 ≤ X0 ∧ X0 ≤ 1000000 ∧ -1000000 ≤ Y0 ∧ Y0 ≤ 1000000 ∧ -1000000 ≤ X1 ∧ X1 ≤ 1000000 ∧ -1000000 ≤ Y1 ∧ Y1 ≤ 1000000) (v vh : Value) (w : World) (hv : SlP w v [(X0, Y0), (X1, Y1)]) :
    Calls Tryz.prog 9 #[.agg #[.int .i64 1, v, vh], .int .i64 0, .int .i64 0] w fun e w' => (∃ val : Value, e = .returned (.tuple #[.agg #[.int .i64 X0, .int .i64 Y0, .int .i64 X1, .int .i64 Y1], .bool false, val])) ∧ Below w.heap.size w w' := by
  have st0 := ((Blk.nil w).push rfl #[.int .i64 1, v, vh] 27).push (b := w.heap.size + 1) (by simp) #[.int .i64 0, .int .i64 0, .int .i64 0, .int .i64 0] 33
  have s0 := hv.below st0.hb
  have c0 := st0.cell 1 rfl 0
  have c1 := st0.cell 1 rfl 1
  have c2 := st0.cell 1 rfl 2
  simp only [List.getElem?_toArray, List.getElem?_cons_zero, List.getElem?_cons_succ] at c0 c1 c2
  obtain ⟨A, c, hvv⟩ := hv.len
  have hvv' : v = .slice A 2 c := hvv
  subst hvv'
  clear hv hvv
  go_enter Tryz.func9, Tryz.ntmps9
  go_wp2
  refine wp_region_K [] [.val (.agg #[.int .i64 1, .slice A 2 c, vh]),
      .val (.int .i64 0),
      .val (.int .i64 0),
      .ptrTo 101 #[.int .u8 0, .int .i64 0],
      .val (.iface 62 (.agg #[fl (fb X0), fl (fb Y0), fl (fb X1), fl (fb Y1)])),
      .val (.iface 62 (.agg #[fl (fb X0), fl (fb Y0), fl (fb X1), fl (fb Y1)]))]
    [[.ini 3], [.ini 1], [.ini 2], [.frm 1 11, .frm 2 12], [.frm 0 10, .frm 3 13], [.frm 4 14]]
    mixed (by kernel_rfl) (by kernel_rfl) (allPre_of ⟨trivial, trivial, trivial, trivial, trivial, trivial, trivial⟩)
    ⟨OpOk.quiet rfl ?_,
      OpOk.quiet rfl ?_,
      OpOk.quiet rfl ?_,
      OpOk.call rfl ?_,
      OpOk.call rfl ?_,
      OpOk.quiet rfl ?_, trivial⟩ ?_
  · intro a u hG hf
    simp [facts, Need.fact, Act.eval] at hf
    have hc := True.intro
    have y0 := (hG.cell (p := ⟨w.heap.size, 0, none⟩) (st0.lt 1 rfl) (by simp)).trans c0
    have y1 := (hG.cell (p := ⟨w.heap.size, 1, none⟩) (st0.lt 1 rfl) (by simp)).trans c1
    have y2 := (hG.cell (p := ⟨w.heap.size, 2, none⟩) (st0.lt 1 rfl) (by simp)).trans c2

    go_simp
  · intro a u _ hf
    simp [facts, Need.fact, Act.eval] at hf
    go_simp
  · intro a u _ hf
    simp [facts, Need.fact, Act.eval] at hf
    go_simp
  · intro a u hG hf
    simp [facts, Need.fact, Ent.val, Act.eval] at hf
    refine ⟨_, _, by go_simp, (index0_c _).mono ?_⟩
    rintro e w' ⟨rfl, rfl⟩
    exact ⟨_, rfl, Ext.alloc _ _, u.heap.size, rfl, Nat.le_refl _, by simp, alloc_get _ _⟩
  · intro a u hG hf
    simp [facts, Need.fact, Ent.of, Ent.val, Act.eval] at hf
    have s1 := s0.below (Keep.below hG)
    obtain ⟨l5, h5, b, hp, -, -, -⟩ := hf.2
    have hf1 := hf.1
    have hsh := shaped1_c X0 Y0 X1 Y1 (.slice A 2 c) vh (.pointer (some ⟨b, 0, none⟩)) u s1
    refine ⟨_, _, by go_simp, hsh.mono ?_⟩
    rintro e w' ⟨rfl, hb⟩
    exact ⟨_, rfl, hb, rfl⟩
  · intro a u _ hf
    simp [facts, Need.fact, Ent.val, Act.eval] at hf
    go_simp
  intro u lw hw wc hK hE hI hD
  simp [allE, Ent.ptrTo, Ent.val] at hE
  obtain ⟨u0, u1, u2, _, u4, u5⟩ := hE
  simp only [allPut, Act.put, u0, u1, u2, u5]
  clear u0 u1 u2 u5
  generalize u (0 + 1 + 1 + 1 + 1) = e4 at *
  generalize u (0 + 1 + 1 + 1) = e3 at *
  try simp only [List.setIfInBounds_toArray, List.set_cons_zero, List.set_cons_succ]
  have st1 := st0.keep hK (fun i x _ => by simp) (fun x hx => by simp at hx)
  clear hK hI hD c0 c1 c2 s0 st0 u4
  have hm1 := mRcRect
  have hm2 := mRcEmpty
  have hm3 := mRcValid
  have r1 := fb_rep X0 (by omega)
  have r2 := fb_rep Y0 (by omega)
  have r3 := fb_rep X1 (by omega)
  have r4 := fb_rep Y1 (by omega)
  go_wp2_with (go_at_call 117; refine Stop1.out ?_)
  refine ⟨?_⟩
  refine (rcRect_c (fb X0) (fb Y0) (fb X1) (fb Y1) _).mono ?_
  rintro e w1 ⟨rfl, hb⟩
  have st2 := st1.ext hb
  clear hb st1
  go_wp2_with (go_at_call 21; refine Stop1.out ?_)
  refine ⟨?_⟩
  refine (corn_c r1 r2 r3 r4 (fun h1 h2 w => from_c h1 h2 w) _).mono ?_
  rintro e w2 ⟨rfl, hb⟩
  have st3 := st2.ext hb
  clear hb st2
  go_wp2_with (go_at_call 37; refine Stop1.out ?_)
  refine ⟨?_⟩
  refine (rem_c (fb X0) (fb Y0) (fb X1) (fb Y1) _).mono ?_
  rintro e w3 ⟨rfl, hb⟩
  have st4 := st3.ext hb
  clear hb st3
  go_wp2_with (go_at_call 38; refine Stop1.out ?_)
  refine ⟨?_⟩
  have hvl := fun u => rval_c r1 r2 r3 r4 u
  generalize decide (-180 ≤ X0 ∧ X0 ≤ 180 ∧ -90 ≤ Y0 ∧ Y0 ≤ 90 ∧ -180 ≤ X1 ∧ X1 ≤ 180 ∧ -90 ≤ Y1 ∧ Y1 ≤ 90) = vl at *
  refine (hvl _).mono ?_
  rintro e w4 ⟨rfl, hb⟩
  have st5 := st4.ext hb
  clear hb st4 hvl
  have d0 := st5.cell 0 rfl 0
  have d1 := st5.cell 0 rfl 1
  have d2 := st5.cell 0 rfl 2
  have d3 := st5.cell 0 rfl 3
  have f0 := fun o => st5.frozen 0 rfl o
  simp only [List.getElem?_toArray, List.getElem?_cons_zero, List.getElem?_cons_succ] at d0 d1 d2 d3
  go_wp2
  exact bodyPost_ret (v := .tuple #[.agg #[.int .i64 X0, .int .i64 Y0, .int .i64 X1, .int .i64 Y1], .bool false, .bool vl]) (by simp [results, Tryz.results9, go_sem, d0, d1, d2, d3]) rfl ⟨⟨_, rfl⟩, by
    iterate 4 refine Below.setCell ?_ (by show w.heap.size ≤ w.heap.size + 1; omega) _
    exact st5.hb⟩
end Go.Proofs.YtlchljkmipejdaaGreat
