import Derived.Test.YtlchljkmipejdaaGreatSd
import Derived.Test.YtlchljkmipejdaaGreatJd
set_option linter.unusedSimpArgs false
set_option linter.unusedVariables false
namespace Go.Proofs.YtlchljkmipejdaaGreat
open Go.RowKit PF JR
theorem mPoRect (v : Value) (w : World) : (method 287 74 v "Rect").run Tryz.prog w = .ok (142, v) w := by kernel_rfl
theorem mPoEmpty (v : Value) (w : World) : (method 287 74 v "Empty").run Tryz.prog w = .ok (137, v) w := by kernel_rfl
theorem mPoValid (v : Value) (w : World) : (method 287 74 v "Valid").run Tryz.prog w = .ok (143, v) w := by kernel_rfl
theorem mLiRect (n : Nat) (w : World) : (method 287 71 (.pointer (some ⟨n, 0, none⟩)) "Rect").run Tryz.prog w = .ok (129, .pointer (some ⟨n, 0, none⟩)) w := by kernel_rfl
theorem mLiEmpty (n : Nat) (w : World) : (method 287 71 (.pointer (some ⟨n, 0, none⟩)) "Empty").run Tryz.prog w = .ok (122, .pointer (some ⟨n, 0, none⟩)) w := by kernel_rfl
theorem mLiValid (v : Value) (w : World) : (method 287 71 v "Valid").run Tryz.prog w = .ok (130, v) w := by kernel_rfl
def _root_.JR.Ent.lin (l : List (Int × Int)) : Ent := .rel (fun v lo hi w => ∃ n : Nat, v = .iface 71 (.pointer (some ⟨n, 0, none⟩)) ∧ LinV lo hi w n l) (fun _ _ _ _ _ hk ⟨n, h1, h2⟩ => ⟨n, h1, SerP.keep h2 fun k g1 g2 _ => hk k g1 g2⟩)
def _root_.JR.Ent.pol (l : List (Int × Int)) (H : List (List (Int × Int))) : Ent := .rel (fun v lo hi w => ∃ n : Nat, v = .iface 74 (.pointer (some ⟨n, 0, none⟩)) ∧ PolV lo hi w n l H) (fun _ _ _ _ _ hk ⟨n, h1, h2⟩ => ⟨n, h1, PolV.keep h2 fun k g1 g2 _ => hk k g1 g2⟩)
theorem box_bnd {l : List (Int × Int)} (h : ∀ p ∈ l, Bnd p) : Bnd ((box l).1, (box l).2.1) ∧ Bnd ((box l).2.2.1, (box l).2.2.2) :=
  bxs_bnd l _ h (at_bnd h 0) (at_bnd h 0)

set_option maxRecDepth 100000 in
set_option maxHeartbeats 1000000 in
theorem ask2_c (l : List (Int × Int)) (h : okL false l) (v vh : Value) (w : World) (hv : SlP w v l) :
    Calls Tryz.prog 9 #[.agg #[.int .i64 2, v, vh], .int .i64 0, .int .i64 0] w fun e w' => (∃ val : Value, e = .returned (.tuple #[.agg #[.int .i64 (box l).1, .int .i64 (box l).2.1, .int .i64 (box l).2.2.1, .int .i64 (box l).2.2.2], .bool false, val])) ∧ Below w.heap.size w w' := by
  have st0 := ((Blk.nil w).push rfl #[.int .i64 2, v, vh] 27).push (b := w.heap.size + 1) (by simp) #[.int .i64 0, .int .i64 0, .int .i64 0, .int .i64 0] 33
  have s0 := hv.below st0.hb
  have c0 := st0.cell 1 rfl 0
  have c1 := st0.cell 1 rfl 1
  have c2 := st0.cell 1 rfl 2
  simp only [List.getElem?_toArray, List.getElem?_cons_zero, List.getElem?_cons_succ] at c0 c1 c2
  clear hv
  go_enter Tryz.func9, Tryz.ntmps9
  go_wp2
  refine wp_region_K [] [.val (.agg #[.int .i64 2, v, vh]),
      .val (.int .i64 0),
      .val (.int .i64 0),
      .ptrTo 101 #[.int .u8 0, .int .i64 0],
      .lin l,
      .fnS 14 id]
    [[.ini 3], [.ini 1], [.ini 2], [.frm 1 11, .frm 2 12], [.frm 0 10, .frm 3 13], [.frm 4 14]]
    mixed (by kernel_rfl) (by kernel_rfl) (allPre_of ⟨trivial, trivial, trivial, trivial, trivial, trivial, trivial⟩)
    ⟨OpOk.quiet rfl ?_,
      OpOk.quiet rfl ?_,
      OpOk.quiet rfl ?_,
      OpOk.call rfl ?_,
      OpOk.call rfl ?_,
      OpOk.fnS rfl ?_, trivial⟩ ?_
  · intro a u hG hf
    simp [facts, Need.fact, Act.eval] at hf
    have hc := True.intro
    have y0 := (hG.cell (p := ⟨w.heap.size, 0, none⟩) (st0.lt 1 rfl) (by simp)).trans c0
    have y1 := (hG.cell (p := ⟨w.heap.size, 1, none⟩) (st0.lt 1 rfl) (by simp)).trans c1
    have y2 := (hG.cell (p := ⟨w.heap.size, 2, none⟩) (st0.lt 1 rfl) (by simp)).trans c2

    go_simp
  · intro a u _ hf
    simp [facts, Need.fact, Act.eval] at hf
    go_simp
  · intro a u _ hf
    simp [facts, Need.fact, Act.eval] at hf
    go_simp
  · intro a u hG hf
    simp [facts, Need.fact, Ent.val, Act.eval] at hf
    refine ⟨_, _, by go_simp, (index0_c _).mono ?_⟩
    rintro e w' ⟨rfl, rfl⟩
    exact ⟨_, rfl, Ext.alloc _ _, u.heap.size, rfl, Nat.le_refl _, by simp, alloc_get _ _⟩
  · intro a u hG hf
    simp [facts, Need.fact, Ent.of, Ent.val, Act.eval] at hf
    have s1 := s0.below (Keep.below hG)
    obtain ⟨l5, h5, b, hp, -, -, hcl⟩ := hf.2
    have hf1 := hf.1
    have hsh := shaped2_c l h b v vh u (by assumption) s1
    refine ⟨_, _, by go_simp, hsh.mono ?_⟩
    rintro e w' ⟨n, rfl, hs, hb⟩
    exact ⟨_, rfl, hb, n, rfl, hs⟩
  · intro a u _ hf
    go_simp
  intro u lw hw wc hK hE hI hD
  simp [allE, Ent.fnS, Ent.lin, Ent.ptrTo, Ent.val] at hE
  obtain ⟨u0, u1, u2, -, u4, u5⟩ := hE
  simp only [allPut, Act.put, u0, u1, u2]
  clear u0 u1 u2
  simp [allPut, Act.put, Act.eval] at u5
  replace u4 : (Ent.lin l).E (u 4) (lw 4) (hw 4) ⟨#[], []⟩ wc := u4
  have i4 := hI 4 (by show 4 < 6; omega)
  rw [u5]
  clear u5
  obtain ⟨n, e4, hn⟩ := u4
  rw [e4]
  clear e4
  generalize u (0 + 1 + 1 + 1) = e3 at *
  generalize u 4 = e4 at *
  try simp only [List.setIfInBounds_toArray, List.set_cons_zero, List.set_cons_succ]
  have st1 := st0.keep hK (fun i x _ => by simp) (fun x hx => by simp at hx)
  clear hK hI hD c0 c1 c2 s0 st0 i4
  have R : ∀ u, Below wc.heap.size wc u → Calls Tryz.prog 129 #[.pointer (some ⟨n, 0, none⟩)] u fun e w' => e = .returned (.agg #[fl (fb (box l).1), fl (fb (box l).2.1), fl (fb (box l).2.2.1), fl (fb (box l).2.2.2)]) ∧ Below u.heap.size u w' := by
    intro u hu
    obtain ⟨cv, cw, v', -, -, g3, -⟩ := hn
    exact bsRect_c false cv cw _ _ _ _ v' _ n u ((hu.block n (lt_of_some g3)).trans g3)
  have E : ∀ u, Below wc.heap.size wc u → Calls Tryz.prog 122 #[.pointer (some ⟨n, 0, none⟩)] u fun e w' => e = .returned (.bool false) ∧ Below u.heap.size u w' := by
    intro u hu
    obtain ⟨cv, cw, v', -, -, g3, g4⟩ := hn
    obtain ⟨A, c, rfl⟩ := g4.len
    exact bsEmpty_c false cv cw l.length _ _ _ _ A c _ n u ((hu.block n (lt_of_some g3)).trans g3) (.inr ⟨rfl, h.1⟩)
  have V : ∀ u, Below wc.heap.size wc u → Calls Tryz.prog 130 #[.pointer (some ⟨n, 0, none⟩)] u (AnyB u) :=
    fun u hu => linValid_c l h _ _ _ _ _ _ n _ u (SerP.keep hn fun k _ _ h3 => hu.block k h3)
  have hm1 := mLiRect
  have hm2 := mLiEmpty
  have hm3 := mLiValid
  obtain ⟨rb, rc⟩ := box_bnd h.2.2.2
  simp only [Bnd] at rb rc
  clear hn h
  obtain ⟨r, hr⟩ : ∃ r, box l = r := ⟨_, rfl⟩
  rw [hr] at rb rc
  simp only [hr] at R
  have r1 := fb_rep r.1 (by omega)
  have r2 := fb_rep r.2.1 (by omega)
  have r3 := fb_rep r.2.2.1 (by omega)
  have r4 := fb_rep r.2.2.2 (by omega)
  clear rb rc
  go_wp2_with (go_at_call 129; refine Stop1.out ?_)
  refine ⟨?_⟩
  refine (R _ (Below.refl _ _)).mono ?_
  rintro e w1 ⟨rfl, hb⟩
  have st2 := st1.ext hb
  have hb1 := hb
  clear hb st1 R
  go_wp2_with (go_at_call 21; refine Stop1.out ?_)
  refine ⟨?_⟩
  refine (corn_c r1 r2 r3 r4 (fun h1 h2 w => from_c h1 h2 w) _).mono ?_
  rintro e w2 ⟨rfl, hb⟩
  have st3 := st2.ext hb
  have hb2 := hb1.trans (hb.mono hb1.size)
  clear hb st2 hb1 r1 r2 r3 r4
  go_wp2_with (go_at_call 122; refine Stop1.out ?_)
  refine ⟨?_⟩
  refine (E _ hb2).mono ?_
  rintro e w3 ⟨rfl, hb⟩
  have st4 := st3.ext hb
  have hb3 := hb2.trans (hb.mono hb2.size)
  clear hb st3 E hb2
  go_wp2_with (go_at_call 130; refine Stop1.out ?_)
  refine ⟨?_⟩
  refine (V _ hb3).mono ?_
  rintro e w4 ⟨vl, rfl, hb⟩
  have st5 := st4.ext hb
  clear hb st4 V hb3
  have d0 := st5.cell 0 rfl 0
  have d1 := st5.cell 0 rfl 1
  have d2 := st5.cell 0 rfl 2
  have d3 := st5.cell 0 rfl 3
  have f0 := fun o => st5.frozen 0 rfl o
  simp only [List.getElem?_toArray, List.getElem?_cons_zero, List.getElem?_cons_succ] at d0 d1 d2 d3
  go_wp2
  exact bodyPost_ret (v := .tuple #[.agg #[.int .i64 r.1, .int .i64 r.2.1, .int .i64 r.2.2.1, .int .i64 r.2.2.2], .bool false, .bool vl]) (by simp [results, Tryz.results9, go_sem, d0, d1, d2, d3]) rfl ⟨⟨.bool vl, by rw [hr]⟩, by
    iterate 4 refine Below.setCell ?_ (by show w.heap.size ≤ w.heap.size + 1; omega) _
    exact st5.hb⟩

set_option maxRecDepth 100000 in
set_option maxHeartbeats 1000000 in
theorem ask3_c (l : List (Int × Int)) (H : List (List (Int × Int))) (h : okL true l) (hH : ∀ x ∈ H, okL true x) (hm : H.length ≤ 1000) (v vh : Value) (w : World) (hv : SlP w v l) (hh : SlH w vh H) :
    Calls Tryz.prog 9 #[.agg #[.int .i64 3, v, vh], .int .i64 0, .int .i64 0] w fun e w' => (∃ val : Value, e = .returned (.tuple #[.agg #[.int .i64 (box l).1, .int .i64 (box l).2.1, .int .i64 (box l).2.2.1, .int .i64 (box l).2.2.2], .bool false, val])) ∧ Below w.heap.size w w' := by
  have st0 := ((Blk.nil w).push rfl #[.int .i64 3, v, vh] 27).push (b := w.heap.size + 1) (by simp) #[.int .i64 0, .int .i64 0, .int .i64 0, .int .i64 0] 33
  have s0 := hv.below st0.hb
  have s0h := hh.below st0.hb
  have c0 := st0.cell 1 rfl 0
  have c1 := st0.cell 1 rfl 1
  have c2 := st0.cell 1 rfl 2
  simp only [List.getElem?_toArray, List.getElem?_cons_zero, List.getElem?_cons_succ] at c0 c1 c2
  clear hv
  go_enter Tryz.func9, Tryz.ntmps9
  go_wp2
  refine wp_region_K [] [.val (.agg #[.int .i64 3, v, vh]),
      .val (.int .i64 0),
      .val (.int .i64 0),
      .ptrTo 101 #[.int .u8 0, .int .i64 0],
      .pol l H,
      .fnS 14 id]
    [[.ini 3], [.ini 1], [.ini 2], [.frm 1 11, .frm 2 12], [.frm 0 10, .frm 3 13], [.frm 4 14]]
    mixed (by kernel_rfl) (by kernel_rfl) (allPre_of ⟨trivial, trivial, trivial, trivial, trivial, trivial, trivial⟩)
    ⟨OpOk.quiet rfl ?_,
      OpOk.quiet rfl ?_,
      OpOk.quiet rfl ?_,
      OpOk.call rfl ?_,
      OpOk.call rfl ?_,
      OpOk.fnS rfl ?_, trivial⟩ ?_
  · intro a u hG hf
    simp [facts, Need.fact, Act.eval] at hf
    have hc := True.intro
    have y0 := (hG.cell (p := ⟨w.heap.size, 0, none⟩) (st0.lt 1 rfl) (by simp)).trans c0
    have y1 := (hG.cell (p := ⟨w.heap.size, 1, none⟩) (st0.lt 1 rfl) (by simp)).trans c1
    have y2 := (hG.cell (p := ⟨w.heap.size, 2, none⟩) (st0.lt 1 rfl) (by simp)).trans c2

    go_simp
  · intro a u _ hf
    simp [facts, Need.fact, Act.eval] at hf
    go_simp
  · intro a u _ hf
    simp [facts, Need.fact, Act.eval] at hf
    go_simp
  · intro a u hG hf
    simp [facts, Need.fact, Ent.val, Act.eval] at hf
    refine ⟨_, _, by go_simp, (index0_c _).mono ?_⟩
    rintro e w' ⟨rfl, rfl⟩
    exact ⟨_, rfl, Ext.alloc _ _, u.heap.size, rfl, Nat.le_refl _, by simp, alloc_get _ _⟩
  · intro a u hG hf
    simp [facts, Need.fact, Ent.of, Ent.val, Act.eval] at hf
    have s1 := s0.below (Keep.below hG)
    have s2 := s0h.below (Keep.below hG)
    obtain ⟨l5, h5, b, hp, -, -, hcl⟩ := hf.2
    have hf1 := hf.1
    have hsh := shaped3_c l H h hH hm b v vh u (by assumption) s1 s2
    refine ⟨_, _, by go_simp, hsh.mono ?_⟩
    rintro e w' ⟨n, rfl, hs, hb⟩
    exact ⟨_, rfl, hb, n, rfl, hs⟩
  · intro a u _ hf
    go_simp
  intro u lw hw wc hK hE hI hD
  simp [allE, Ent.fnS, Ent.pol, Ent.ptrTo, Ent.val] at hE
  obtain ⟨u0, u1, u2, -, u4, u5⟩ := hE
  simp only [allPut, Act.put, u0, u1, u2]
  clear u0 u1 u2
  simp [allPut, Act.put, Act.eval] at u5
  replace u4 : (Ent.pol l H).E (u 4) (lw 4) (hw 4) ⟨#[], []⟩ wc := u4
  have i4 := hI 4 (by show 4 < 6; omega)
  rw [u5]
  clear u5
  obtain ⟨n, e4, hn⟩ := u4
  rw [e4]
  clear e4
  generalize u (0 + 1 + 1 + 1) = e3 at *
  generalize u 4 = e4 at *
  try simp only [List.setIfInBounds_toArray, List.set_cons_zero, List.set_cons_succ]
  have st1 := st0.keep hK (fun i x _ => by simp) (fun x hx => by simp at hx)
  clear hK hI hD c0 c1 c2 s0 st0 i4
  have R := fun u (hu : Below wc.heap.size wc u) => polRect_c _ _ n l H u (hn.below hu)
  have E := fun u (hu : Below wc.heap.size wc u) => polEmpty_c _ _ n l H h u (hn.below hu)
  have V := fun u (hu : Below wc.heap.size wc u) => polValid_c _ _ n l H h hH hm u (hn.below hu)
  have hm1 := mPoRect
  have hm2 := mPoEmpty
  have hm3 := mPoValid
  obtain ⟨rb, rc⟩ := box_bnd h.2.2.2
  simp only [Bnd] at rb rc
  clear hn h hH hm s0h
  obtain ⟨r, hr⟩ : ∃ r, box l = r := ⟨_, rfl⟩
  rw [hr] at rb rc
  simp only [hr] at R
  have r1 := fb_rep r.1 (by omega)
  have r2 := fb_rep r.2.1 (by omega)
  have r3 := fb_rep r.2.2.1 (by omega)
  have r4 := fb_rep r.2.2.2 (by omega)
  clear rb rc
  go_wp2_with (go_at_call 142; refine Stop1.out ?_)
  refine ⟨?_⟩
  refine (R _ (Below.refl _ _)).mono ?_
  rintro e w1 ⟨rfl, hb⟩
  have st2 := st1.ext hb
  have hb1 := hb
  clear hb st1 R
  go_wp2_with (go_at_call 21; refine Stop1.out ?_)
  refine ⟨?_⟩
  refine (corn_c r1 r2 r3 r4 (fun h1 h2 w => from_c h1 h2 w) _).mono ?_
  rintro e w2 ⟨rfl, hb⟩
  have st3 := st2.ext hb
  have hb2 := hb1.trans (hb.mono hb1.size)
  clear hb st2 hb1 r1 r2 r3 r4
  go_wp2_with (go_at_call 137; refine Stop1.out ?_)
  refine ⟨?_⟩
  refine (E _ hb2).mono ?_
  rintro e w3 ⟨rfl, hb⟩
  have st4 := st3.ext hb
  have hb3 := hb2.trans (hb.mono hb2.size)
  clear hb st3 E hb2
  go_wp2_with (go_at_call 143; refine Stop1.out ?_)
  refine ⟨?_⟩
  refine (V _ hb3).mono ?_
  rintro e w4 ⟨vl, rfl, hb⟩
  have st5 := st4.ext hb
  clear hb st4 V hb3
  have d0 := st5.cell 0 rfl 0
  have d1 := st5.cell 0 rfl 1
  have d2 := st5.cell 0 rfl 2
  have d3 := st5.cell 0 rfl 3
  have f0 := fun o => st5.frozen 0 rfl o
  simp only [List.getElem?_toArray, List.getElem?_cons_zero, List.getElem?_cons_succ] at d0 d1 d2 d3
  go_wp2
  exact bodyPost_ret (v := .tuple #[.agg #[.int .i64 r.1, .int .i64 r.2.1, .int .i64 r.2.2.1, .int .i64 r.2.2.2], .bool false, .bool vl]) (by simp [results, Tryz.results9, go_sem, d0, d1, d2, d3]) rfl ⟨⟨.bool vl, by rw [hr]⟩, by
    iterate 4 refine Below.setCell ?_ (by show w.heap.size ≤ w.heap.size + 1; omega) _
    exact st5.hb⟩
end Go.Proofs.YtlchljkmipejdaaGreat
