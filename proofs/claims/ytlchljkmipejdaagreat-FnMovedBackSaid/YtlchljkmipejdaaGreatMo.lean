import Derived.Test.YtlchljkmipejdaaGreatPv
import Derived.Test.YtlchljkmipejdaaGreatAa
set_option linter.unusedSimpArgs false
set_option linter.unusedVariables false
namespace JR
open Go Go.RowKit
/-- a slice of one new block of these cells, n elements -/
def Ent.slcN (T : TypeId) (n : Nat) (cs : Array Value) : Ent :=
  .rel (fun v l h u => ∃ b, v = .slice (some ⟨b, 0, none⟩) n n ∧ l ≤ b ∧ b < h ∧ u.heap[b]? = some (.cells cs T (0, 0)))
    (fun _ _ _ _ _ hk ⟨b, h1, h2, h3, h4⟩ => ⟨b, h1, h2, h3, (hk b h2 h3).trans h4⟩)
end JR
namespace PF
open Go Go.RowKit JR
theorem SlR.wide {l h l' h' : Nat} {w : World} {v : Value} {L : List (Int × Int)} (H : SlR l h w v L) (h1 : l' ≤ l) (h2 : h ≤ h') : SlR l' h' w v L := by
  obtain ⟨A, c, hv, hh⟩ := H
  refine ⟨A, c, hv, fun k p hp => ?_⟩
  obtain ⟨b, h1, h4, h5, h2, h3⟩ := hh k p hp
  exact ⟨b, h1, by omega, by omega, h2, h3⟩
/-- a slice of slices of points, all of it in blocks from number lo up to hi -/
def SlHR (lo hi : Nat) (w : World) (v : Value) (H : List (List (Int × Int))) : Prop :=
  ∃ A c, v = .slice A H.length c ∧ ∀ k h, H[k]? = some h → ∃ b y, A = some ⟨b, 0, none⟩ ∧ lo ≤ b ∧ b < hi ∧ w.cell? ⟨b, 0 + k, none⟩ = some y ∧ SlR lo hi w y h
theorem SlHR.h {lo hi : Nat} {w : World} {v : Value} {H : List (List (Int × Int))} (h : SlHR lo hi w v H) : SlH w v H := by
  obtain ⟨A, c, hv, hk⟩ := h
  refine ⟨A, c, hv, fun k x hx => ?_⟩
  obtain ⟨b, y, h1, -, -, h2, h3⟩ := hk k x hx
  exact ⟨b, 0, y, h1, h2, h3.p⟩
theorem SlHR.keep {lo hi : Nat} {w w' : World} {v : Value} {H : List (List (Int × Int))} (hb : ∀ b, lo ≤ b → b < hi → w'.heap[b]? = w.heap[b]?) (h : SlHR lo hi w v H) : SlHR lo hi w' v H := by
  obtain ⟨A, c, hv, hk⟩ := h
  refine ⟨A, c, hv, fun k x hx => ?_⟩
  obtain ⟨b, y, h1, h4, h5, h2, h3⟩ := hk k x hx
  exact ⟨b, y, h1, h4, h5, (World.cell?_of_block (hb b h4 h5)).trans h2, h3.keep hb⟩
theorem SlHR.own {w : World} {base lo hi : Nat} {T : TypeId} {v : Value} {xs : List Value} {H : List (List (Int × Int))} (hown : w.ownsRow base T 1 v H.length xs) (h1 : lo ≤ base) (h2 : w.heap.size ≤ hi)
    (hqs : ∀ (j : Nat) (x : List (Int × Int)), j < H.length → H[j]? = some x → ∃ y, xs[j]? = some y ∧ SlR lo hi w y x) : SlHR lo hi w v H := by
  have hlt := fun g hg => hown.lt g hg
  rcases id hown.2 with ⟨rfl, h0⟩ | ⟨g, cap, cur, rfl, _⟩
  · have : H = [] := List.eq_nil_of_length_eq_zero h0
    subst this
    exact ⟨none, 0, rfl, fun k p hp => by simp at hp⟩
  · refine ⟨_, _, rfl, fun k x hx => ?_⟩
    have hkl : k < H.length := by
      rcases Nat.lt_or_ge k H.length with h | h
      · exact h
      · rw [List.getElem?_eq_none h] at hx; cases hx
    obtain ⟨y, e1, e3⟩ := hqs k x hkl hx
    have a1 := hown.cells (g := g) rfl _ _ e1
    have e : (⟨g, 0, none⟩ : Addr).add k = ⟨g, 0 + k, none⟩ := by unfold Addr.add; split <;> simp_all
    rw [e] at a1
    have hg := hlt g rfl
    exact ⟨g, y, rfl, by omega, by omega, a1, e3⟩
theorem Blk.slr1 {w u : World} {L : List (Nat × Array Value × TypeId)} (h : Blk w u L) (i : Nat) {b lo hi : Nat} {T : TypeId} {X0 Y0 : Int} (h1 : lo ≤ b) (h2 : b < hi) (hi' : L[i]? = some (b, #[.int .i64 X0, .int .i64 Y0], T)) : SlR lo hi u (.slice (some ⟨b, 0, none⟩) 1 1) [(X0, Y0)] := by
  have c := fun o => h.cell i hi' o
  refine ⟨_, 1, rfl, fun k p hp => ⟨b, rfl, h1, h2, ?_⟩⟩
  match k, hp with
  | 0, hp => cases hp; exact ⟨c 0, c 1⟩
theorem Blk.slr2 {w u : World} {L : List (Nat × Array Value × TypeId)} (h : Blk w u L) (i : Nat) {b lo hi : Nat} {T : TypeId} {X0 Y0 X1 Y1 : Int} (h1 : lo ≤ b) (h2 : b < hi) (hi' : L[i]? = some (b, #[.int .i64 X0, .int .i64 Y0, .int .i64 X1, .int .i64 Y1], T)) : SlR lo hi u (.slice (some ⟨b, 0, none⟩) 2 2) [(X0, Y0), (X1, Y1)] := by
  have c := fun o => h.cell i hi' o
  refine ⟨_, 2, rfl, fun k p hp => ⟨b, rfl, h1, h2, ?_⟩⟩
  match k, hp with
  | 0, hp => cases hp; exact ⟨c 0, c 1⟩
  | 1, hp => cases hp; exact ⟨c 2, c 3⟩
end PF
namespace Go.Proofs.YtlchljkmipejdaaGreat
open Go.RowKit PF JR
def VsR (K : Int) (l : List (Int × Int)) (H : List (List (Int × Int))) (w : World) (e : Ending) (w' : World) : Prop :=
  ∃ v' vh', e = .returned (.agg #[.int .i64 K, v', vh']) ∧ SlR w.heap.size w'.heap.size w' v' l ∧ SlHR w.heap.size w'.heap.size w' vh' H ∧ Below w.heap.size w w'
theorem mvp_bnd {p : Int × Int} {dx dy : Int} (h1 : p.1.natAbs ≤ 500000 ∧ p.2.natAbs ≤ 500000) (h2 : dx.natAbs ≤ 500000 ∧ dy.natAbs ≤ 500000) : Bnd (mvp dx dy p) := by
  unfold Bnd mvp; simp only; omega

set_option maxRecDepth 100000 in
set_option maxHeartbeats 2000000 in
theorem moved0_c (x y dx dy : Int) (h1 : x.natAbs ≤ 500000 ∧ y.natAbs ≤ 500000) (h2 : dx.natAbs ≤ 500000 ∧ dy.natAbs ≤ 500000) (v vh : Value) (w : World) (hv : SlP w v [(x, y)]) :
    Calls Tryz.prog 13 #[.agg #[.int .i64 0, v, vh], .int .i64 dx, .int .i64 dy] w (VsR 0 [(x + dx, y + dy)] [] w) := by
  have st0 := (((Blk.nil w).push rfl #[.int .i64 0, v, vh] 27).push (b := w.heap.size + 1) (by simp) #[.int .i64 0, .slice none 0 0, .slice none 0 0] 27).push (b := w.heap.size + 1 + 1) (by simp) #[.int .i64 0, .slice none 0 0, .slice none 0 0] 27
  have s0 := hv.below st0.hb
  have c0 := st0.cell 2 rfl 0
  have c1 := st0.cell 2 rfl 1
  have c2 := st0.cell 2 rfl 2
  simp only [List.getElem?_toArray, List.getElem?_cons_zero, List.getElem?_cons_succ] at c0 c1 c2
  have hcx : floatOfInt FloatKind.f64 dx = fb dx := rfl
  have hcy : floatOfInt FloatKind.f64 dy = fb dy := rfl
  clear hv
  go_enter Tryz.func13, Tryz.ntmps13
  go_wp2
  refine wp_region_K [] [.val (.agg #[.int .i64 0, v, vh]),
      .ptrTo 101 #[.int .u8 0, .int .i64 0],
      .val (.iface 60 (.agg #[fl (fb x), fl (fb y)]))]
    [[.ini 3], [], [.frm 0 25, .frm 1 26]]
    mixed (by kernel_rfl) (by kernel_rfl) (allPre_of ⟨trivial, trivial, trivial, trivial⟩)
    ⟨OpOk.quiet rfl ?_,
      OpOk.call rfl ?_,
      OpOk.call rfl ?_, trivial⟩ ?_
  · intro a u hG hf
    simp [facts, Need.fact, Act.eval] at hf
    have hc := True.intro
    have y0 := (hG.cell (p := ⟨w.heap.size, 0, none⟩) (st0.lt 2 rfl) (by simp)).trans c0
    have y1 := (hG.cell (p := ⟨w.heap.size, 1, none⟩) (st0.lt 2 rfl) (by simp)).trans c1
    have y2 := (hG.cell (p := ⟨w.heap.size, 2, none⟩) (st0.lt 2 rfl) (by simp)).trans c2

    go_simp
  · intro a u hG _
    refine ⟨_, _, by go_simp, (index0_c _).mono ?_⟩
    rintro e w' ⟨rfl, rfl⟩
    exact ⟨_, rfl, Ext.alloc _ _, u.heap.size, rfl, Nat.le_refl _, by simp, alloc_get _ _⟩
  · intro a u hG hf
    simp [facts, Need.fact, Ent.of, Ent.val, Act.eval] at hf
    have s1 := s0.below (Keep.below hG)
    obtain ⟨l5, h5, b, hp, -, -, hcl⟩ := hf.2
    have hf1 := hf.1
    have hsh := shaped0_c x y v vh (.pointer (some ⟨b, 0, none⟩)) u s1
    refine ⟨_, _, by go_simp, hsh.mono ?_⟩
    rintro e w' ⟨rfl, hb⟩
    exact ⟨_, rfl, hb, rfl⟩
  intro u lw hw wc hK hE hI hD
  simp [allE, Ent.ptrTo, Ent.val] at hE
  obtain ⟨u0, -, u2⟩ := hE
  simp only [allPut, Act.put, u0]
  clear u0
  simp only [u2]
  clear u2
  generalize u (0 + 1) = e1 at *
  generalize u (0 + 1 + 1) = e2 at *
  try simp only [List.setIfInBounds_toArray, List.set_cons_zero, List.set_cons_succ]
  have st1 := st0.keep hK (fun i x _ => by simp) (fun x hx => by simp at hx)
  clear hK hI hD c0 c1 c2 s0 st0
  have ha := asPt
  have rx := fb_rep (x + dx) (by omega)
  have ry := fb_rep (y + dy) (by omega)
  go_wp2_with (go_at_call 25; refine JR.StopM.out ?_)
  refine ⟨?_⟩
  refine (ptMove_c x y dx dy (by omega) (by omega) _).mono ?_
  rintro e w1 ⟨rfl, hb⟩
  have st2 := (st1.push rfl #[fl (fb x), fl (fb y)] 60).ext hb
  clear hb
  go_wp2_with (go_at_call 24; refine JR.StopM.out ?_)
  refine ⟨?_⟩
  refine (from_c rx ry _).mono ?_
  rintro e w2 ⟨rfl, hb⟩
  have st3 := st2.tail.ext hb
  clear hb st2 st1 rx ry
  have z0 := st3.cell 0 rfl 0
  have z1 := st3.cell 0 rfl 1
  have z2 := st3.cell 0 rfl 2
  have p0 := st3.cell 1 rfl 0
  have p1 := st3.cell 1 rfl 1
  have p2 := st3.cell 1 rfl 2
  have fz := fun o => st3.frozen 0 rfl o
  have fp := fun o => st3.frozen 1 rfl o
  simp only [List.getElem?_toArray, List.getElem?_cons_zero, List.getElem?_cons_succ] at z0 z1 z2 p0 p1 p2
  have g1 := st3.lt 0 rfl
  have g2 := st3.lt 1 rfl
  have st4 := ((((st3).put 0 (o := 1) (v := .slice (some ⟨w2.heap.size, 0, none⟩) 1 1) rfl ⟨.inl rfl, .inr (by show _ ≠ _; omega), .inr (by show _ ≠ _; omega), trivial⟩ (by omega)).put 1 (o := 0) (v := .int .i64 0) rfl ⟨.inr (by show _ ≠ _; omega), .inl rfl, .inr (by show _ ≠ _; omega), trivial⟩ (by omega)).put 1 (o := 1) (v := .slice (some ⟨w2.heap.size, 0, none⟩) 1 1) rfl ⟨.inr (by show _ ≠ _; omega), .inl rfl, .inr (by show _ ≠ _; omega), trivial⟩ (by omega)).put 1 (o := 2) (v := .slice none 0 0) rfl ⟨.inr (by show _ ≠ _; omega), .inl rfl, .inr (by show _ ≠ _; omega), trivial⟩ (by omega)
  have stF := st4.push (b := w2.heap.size) (by simp) #[.int .i64 (x + dx), .int .i64 (y + dy)] 32
  have t0 := stF.cell 2 rfl 0
  have t1 := stF.cell 2 rfl 1
  have t2 := stF.cell 2 rfl 2
  simp at t0 t1 t2
  go_wp2
  exact bodyPost_ret (v := .agg #[.int .i64 0, .slice (some ⟨w2.heap.size, 0, none⟩) 1 1, .slice none 0 0]) (by simp [results, Tryz.results13, go_sem, t0, t1, t2]) rfl ⟨_, _, rfl, stF.slr1 0 (by omega) (stF.lt 0 rfl) rfl, ⟨none, 0, rfl, fun k x hx => by simp at hx⟩, stF.hb⟩

set_option maxRecDepth 100000 in
set_option maxHeartbeats 2000000 in
theorem moved2_c (l : List (Int × Int)) (h : okL false l) (dx dy : Int) (hd : dx.natAbs ≤ 1000000 ∧ dy.natAbs ≤ 1000000) (hm : okL false (l.map (mvp dx dy))) (hl63 : l.length < 64) (v vh : Value) (w : World) (hv : SlP w v l) :
    Calls Tryz.prog 13 #[.agg #[.int .i64 2, v, vh], .int .i64 dx, .int .i64 dy] w (VsR 2 (l.map (mvp dx dy)) [] w) := by
  have st0 := (((Blk.nil w).push rfl #[.int .i64 2, v, vh] 27).push (b := w.heap.size + 1) (by simp) #[.int .i64 0, .slice none 0 0, .slice none 0 0] 27).push (b := w.heap.size + 1 + 1) (by simp) #[.int .i64 2, .slice none 0 0, .slice none 0 0] 27
  have s0 := hv.below st0.hb
  have c0 := st0.cell 2 rfl 0
  have c1 := st0.cell 2 rfl 1
  have c2 := st0.cell 2 rfl 2
  simp only [List.getElem?_toArray, List.getElem?_cons_zero, List.getElem?_cons_succ] at c0 c1 c2
  have hcx : floatOfInt FloatKind.f64 dx = fb dx := rfl
  have hcy : floatOfInt FloatKind.f64 dy = fb dy := rfl
  clear hv
  go_enter Tryz.func13, Tryz.ntmps13
  go_wp2
  refine wp_region_K [] [.val (.agg #[.int .i64 2, v, vh]),
      .ptrTo 101 #[.int .u8 0, .int .i64 0],
      .lin l]
    [[.ini 3], [], [.frm 0 25, .frm 1 26]]
    mixed (by kernel_rfl) (by kernel_rfl) (allPre_of ⟨trivial, trivial, trivial, trivial⟩)
    ⟨OpOk.quiet rfl ?_,
      OpOk.call rfl ?_,
      OpOk.call rfl ?_, trivial⟩ ?_
  · intro a u hG hf
    simp [facts, Need.fact, Act.eval] at hf
    have hc := True.intro
    have y0 := (hG.cell (p := ⟨w.heap.size, 0, none⟩) (st0.lt 2 rfl) (by simp)).trans c0
    have y1 := (hG.cell (p := ⟨w.heap.size, 1, none⟩) (st0.lt 2 rfl) (by simp)).trans c1
    have y2 := (hG.cell (p := ⟨w.heap.size, 2, none⟩) (st0.lt 2 rfl) (by simp)).trans c2

    go_simp
  · intro a u hG _
    refine ⟨_, _, by go_simp, (index0_c _).mono ?_⟩
    rintro e w' ⟨rfl, rfl⟩
    exact ⟨_, rfl, Ext.alloc _ _, u.heap.size, rfl, Nat.le_refl _, by simp, alloc_get _ _⟩
  · intro a u hG hf
    simp [facts, Need.fact, Ent.of, Ent.val, Act.eval] at hf
    have s1 := s0.below (Keep.below hG)
    obtain ⟨l5, h5, b, hp, -, -, hcl⟩ := hf.2
    have hf1 := hf.1
    have hsh := shaped2_c l h b v vh u (by assumption) s1
    refine ⟨_, _, by go_simp, hsh.mono ?_⟩
    rintro e w' ⟨n, rfl, hs, hb⟩
    exact ⟨_, rfl, hb, n, rfl, hs⟩
  intro u lw hw wc hK hE hI hD
  simp [allE, Ent.lin, Ent.ptrTo, Ent.val] at hE
  obtain ⟨u0, -, u2⟩ := hE
  simp only [allPut, Act.put, u0]
  clear u0
  replace u2 : (Ent.lin l).E (u 2) (lw 2) (hw 2) ⟨#[], []⟩ wc := u2
  obtain ⟨n, e2', hn⟩ := u2
  rw [e2']
  clear e2'
  generalize u (0 + 1) = e1 at *
  generalize u (0 + 1 + 1) = e2 at *
  try simp only [List.setIfInBounds_toArray, List.set_cons_zero, List.set_cons_succ]
  have st1 := st0.keep hK (fun i x _ => by simp) (fun x hx => by simp at hx)
  clear hK hI hD c0 c1 c2 s0 st0
  have ha1 := asLiPt
  have ha2 := asLiRc
  have ha := asLi
  have hmv := linMove_c l h dx dy hd hm hl63 _ _ _ _ _ _ n _ wc hn
  clear hn
  go_wp2_with (go_at_call 28; refine JR.StopM.out ?_)
  refine ⟨?_⟩
  refine hmv.mono ?_
  rintro e w1 ⟨n1, rfl, hs1, hb⟩
  have st2 := st1.ext hb
  clear hb hmv st1
  have hpl := plainS_c 71 n1 (mLiNum n1) (mLiAt n1) (l.map (mvp dx dy)) (by have := hm.2.2.1; omega) (fun p hp => by have := hm.2.2.2 p hp; unfold Bnd at this; omega) false _ _ _ _ _ _ _ w1 hs1
  go_wp2_with (go_at_call 27; refine JR.StopM.out ?_)
  refine ⟨?_⟩
  refine hpl.mono ?_
  rintro e w2 ⟨vs, rfl, hr, hb⟩
  have st3 := st2.ext hb
  have hsz2 := st2.lt 0 rfl
  clear hb hpl hs1
  obtain ⟨Ao, co, rfl⟩ := hr.len
  obtain ⟨b5, j1, j2, j3, r5⟩ := hr.one (by simp; have := h.1; omega)
  clear hr
  have z0 := st3.cell 0 rfl 0
  have z1 := st3.cell 0 rfl 1
  have z2 := st3.cell 0 rfl 2
  have p0 := st3.cell 1 rfl 0
  have p1 := st3.cell 1 rfl 1
  have p2 := st3.cell 1 rfl 2
  have fz := fun o => st3.frozen 0 rfl o
  have fp := fun o => st3.frozen 1 rfl o
  simp only [List.getElem?_toArray, List.getElem?_cons_zero, List.getElem?_cons_succ] at z0 z1 z2 p0 p1 p2
  have stF := ((((st3).put 0 (o := 1) (v := .slice Ao (l.map (mvp dx dy)).length co) rfl ⟨.inl rfl, .inr (by show _ ≠ _; omega), .inr (by show _ ≠ _; omega), trivial⟩ (by omega)).put 1 (o := 0) (v := .int .i64 2) rfl ⟨.inr (by show _ ≠ _; omega), .inl rfl, .inr (by show _ ≠ _; omega), trivial⟩ (by omega)).put 1 (o := 1) (v := .slice Ao (l.map (mvp dx dy)).length co) rfl ⟨.inr (by show _ ≠ _; omega), .inl rfl, .inr (by show _ ≠ _; omega), trivial⟩ (by omega)).put 1 (o := 2) (v := .slice none 0 0) rfl ⟨.inr (by show _ ≠ _; omega), .inl rfl, .inr (by show _ ≠ _; omega), trivial⟩ (by omega)
  have sp := (r5.keep' (w' := ((((w2.setCell ⟨w.heap.size + 1 + 1, 1, none⟩ (.slice Ao (l.map (mvp dx dy)).length co)).setCell ⟨w.heap.size + 1, 0, none⟩ (.int .i64 2)).setCell ⟨w.heap.size + 1, 1, none⟩ (.slice Ao (l.map (mvp dx dy)).length co)).setCell ⟨w.heap.size + 1, 2, none⟩ (.slice none 0 0)))
    (fun b g1 g2 g3 => (Below.heap_setCell _ _ _ _ (by show b ≠ w.heap.size + 1; omega)).trans ((Below.heap_setCell _ _ _ _ (by show b ≠ w.heap.size + 1; omega)).trans ((Below.heap_setCell _ _ _ _ (by show b ≠ w.heap.size + 1; omega)).trans (Below.heap_setCell _ _ _ _ (by show b ≠ w.heap.size + 1 + 1; omega)))))).wide (l' := w.heap.size) (h' := w2.heap.size) (by omega) (by omega)
  simp only [List.length_map] at stF sp
  have t0 := stF.cell 1 rfl 0
  have t1 := stF.cell 1 rfl 1
  have t2 := stF.cell 1 rfl 2
  simp at t0 t1 t2
  go_wp2
  exact bodyPost_ret (v := .agg #[.int .i64 2, .slice Ao l.length co, .slice none 0 0]) (by simp [results, Tryz.results13, go_sem, t0, t1, t2]) rfl ⟨_, _, rfl, by simpa using sp, ⟨none, 0, rfl, fun k x hx => by simp at hx⟩, stF.hb⟩

set_option maxRecDepth 100000 in
set_option maxHeartbeats 2000000 in
theorem moved3_c (l : List (Int × Int)) (H : List (List (Int × Int))) (h : okL true l) (hH : ∀ x ∈ H, okL true x) (hm : H.length ≤ 1000) (dx dy : Int) (hd : dx.natAbs ≤ 1000000 ∧ dy.natAbs ≤ 1000000) (hlm : okL true (l.map (mvp dx dy))) (hHm : ∀ x ∈ H, okL true (x.map (mvp dx dy))) (hl63 : l.length < 64) (hH63 : ∀ x ∈ H, x.length < 64) (v vh : Value) (w : World) (hv : SlP w v l) (hh : SlH w vh H) :
    Calls Tryz.prog 13 #[.agg #[.int .i64 3, v, vh], .int .i64 dx, .int .i64 dy] w (VsR 3 (l.map (mvp dx dy)) (H.map (fun x => x.map (mvp dx dy))) w) := by
  have st0 := (((Blk.nil w).push rfl #[.int .i64 3, v, vh] 27).push (b := w.heap.size + 1) (by simp) #[.int .i64 0, .slice none 0 0, .slice none 0 0] 27).push (b := w.heap.size + 1 + 1) (by simp) #[.int .i64 3, .slice none 0 0, .slice none 0 0] 27
  have s0 := hv.below st0.hb
  have s0h := hh.below st0.hb
  have c0 := st0.cell 2 rfl 0
  have c1 := st0.cell 2 rfl 1
  have c2 := st0.cell 2 rfl 2
  simp only [List.getElem?_toArray, List.getElem?_cons_zero, List.getElem?_cons_succ] at c0 c1 c2
  have hcx : floatOfInt FloatKind.f64 dx = fb dx := rfl
  have hcy : floatOfInt FloatKind.f64 dy = fb dy := rfl
  clear hv
  go_enter Tryz.func13, Tryz.ntmps13
  go_wp2
  refine wp_region_K [] [.val (.agg #[.int .i64 3, v, vh]),
      .ptrTo 101 #[.int .u8 0, .int .i64 0],
      .pol l H]
    [[.ini 3], [], [.frm 0 25, .frm 1 26]]
    mixed (by kernel_rfl) (by kernel_rfl) (allPre_of ⟨trivial, trivial, trivial, trivial⟩)
    ⟨OpOk.quiet rfl ?_,
      OpOk.call rfl ?_,
      OpOk.call rfl ?_, trivial⟩ ?_
  · intro a u hG hf
    simp [facts, Need.fact, Act.eval] at hf
    have hc := True.intro
    have y0 := (hG.cell (p := ⟨w.heap.size, 0, none⟩) (st0.lt 2 rfl) (by simp)).trans c0
    have y1 := (hG.cell (p := ⟨w.heap.size, 1, none⟩) (st0.lt 2 rfl) (by simp)).trans c1
    have y2 := (hG.cell (p := ⟨w.heap.size, 2, none⟩) (st0.lt 2 rfl) (by simp)).trans c2

    go_simp
  · intro a u hG _
    refine ⟨_, _, by go_simp, (index0_c _).mono ?_⟩
    rintro e w' ⟨rfl, rfl⟩
    exact ⟨_, rfl, Ext.alloc _ _, u.heap.size, rfl, Nat.le_refl _, by simp, alloc_get _ _⟩
  · intro a u hG hf
    simp [facts, Need.fact, Ent.of, Ent.val, Act.eval] at hf
    have s1 := s0.below (Keep.below hG)
    have s2 := s0h.below (Keep.below hG)
    obtain ⟨l5, h5, b, hp, -, -, hcl⟩ := hf.2
    have hf1 := hf.1
    have hsh := shaped3_c l H h hH hm b v vh u (by assumption) s1 s2
    refine ⟨_, _, by go_simp, hsh.mono ?_⟩
    rintro e w' ⟨n, rfl, hs, hb⟩
    exact ⟨_, rfl, hb, n, rfl, hs⟩
  intro u lw hw wc hK hE hI hD
  simp [allE, Ent.pol, Ent.ptrTo, Ent.val] at hE
  obtain ⟨u0, -, u2⟩ := hE
  simp only [allPut, Act.put, u0]
  clear u0
  replace u2 : (Ent.pol l H).E (u 2) (lw 2) (hw 2) ⟨#[], []⟩ wc := u2
  obtain ⟨n, e2', hn⟩ := u2
  rw [e2']
  clear e2' s0h
  generalize u (0 + 1) = e1 at *
  generalize u (0 + 1 + 1) = e2 at *
  try simp only [List.setIfInBounds_toArray, List.set_cons_zero, List.set_cons_succ]
  have st1 := st0.keep hK (fun i x _ => by simp) (fun x hx => by simp at hx)
  clear hK hI hD c0 c1 c2 s0 st0
  have ha1 := asPoPt
  have ha2 := asPoRc
  have ha3 := asPoLi
  have ha := asPo
  have hmv := polMove_c l H h hH hm dx dy hd hlm hHm hl63 hH63 _ _ n wc hn
  have hwc3 := st1.lt 0 rfl
  clear hn
  go_wp2_with (go_at_call 29; refine JR.StopM.out ?_)
  refine ⟨?_⟩
  refine hmv.mono ?_
  rintro e w1 ⟨n1, rfl, hP, hb⟩
  have st2 := st1.ext hb
  obtain ⟨ve, vs, g1, g2, hn1, hve, hvs⟩ := hP
  obtain ⟨be, rfl, hse⟩ := hve
  clear hb hmv st1
  have x0 := cellAt hn1 0
  simp only [List.getElem?_toArray, List.getElem?_cons_zero, List.getElem?_cons_succ] at x0
  have hpl := plainS_c 107 be (fun w => mBsNum _ w) (fun w => mBsAt _ w) (l.map (mvp dx dy)) (by have := hlm.2.2.1; omega) (fun p hp => by have := hlm.2.2.2 p hp; unfold Bnd at this; omega) true _ _ _ _ _ _ _ w1 hse
  go_wp2_with (go_at_call 27; refine JR.StopM.out ?_)
  refine ⟨?_⟩
  refine hpl.mono ?_
  rintro e w2 ⟨vp, rfl, hr, hb⟩
  have st3 := st2.ext hb
  have hsz2 := st2.lt 0 rfl
  have hn2 := (hb.block n1 (lt_of_some hn1)).trans hn1
  have hvs2 := hvs.keep (w' := w2) (fun k _ _ g => hb.block k g)
  have hbs := hb.size
  clear hb hpl hse x0 hn1 hvs st2
  obtain ⟨Ao, co, rfl⟩ := hr.len
  obtain ⟨b5, j1, j2, j3, r5⟩ := hr.one (by simp; have := h.1; omega)
  clear hr
  have x1 := cellAt hn2 1
  obtain ⟨A, c, rfl, hk⟩ := hvs2
  simp only [List.getElem?_toArray, List.getElem?_cons_zero, List.getElem?_cons_succ, List.length_map] at x1
  have hne1 : n1 ≠ (w.heap.size + 1 + 1) := by omega
  have hn1w : n1 < w2.heap.size := lt_of_some hn2
  have hok12 : l.length ≤ 1000 := h.2.2.1
  clear hn2
  have z0 := st3.cell 0 rfl 0
  have z1 := st3.cell 0 rfl 1
  have z2 := st3.cell 0 rfl 2
  have p0 := st3.cell 1 rfl 0
  have p1 := st3.cell 1 rfl 1
  have p2 := st3.cell 1 rfl 2
  have fz := fun o => st3.frozen 0 rfl o
  have fp := fun o => st3.frozen 1 rfl o
  simp only [List.getElem?_toArray, List.getElem?_cons_zero, List.getElem?_cons_succ] at z0 z1 z2 p0 p1 p2
  obtain ⟨i0, hi', hz0, hz1, hz2⟩ := info_parts infoPs
  simp only [List.length_map] at st3 r5 ⊢
  go_wp2
  have stL := st3.put 0 (o := 1) (v := .slice Ao l.length co) rfl ⟨.inl rfl, .inr (by show _ ≠ _; omega), .inr (by show _ ≠ _; omega), trivial⟩ (by omega)
  have hkL : ∀ j, j < w2.heap.size → j ≠ (w.heap.size + 1 + 1) → (w2.setCell ⟨(w.heap.size + 1 + 1), 1, none⟩ (.slice Ao l.length co)).heap[j]? = w2.heap[j]? := fun j _ hj => Below.heap_setCell _ _ _ _ hj
  have hszL : (w2.setCell ⟨(w.heap.size + 1 + 1), 1, none⟩ (.slice Ao l.length co)).heap.size = w2.heap.size := by simp
  go_loopw [81] (fun i wr => ∃ k : Nat, k ≤ H.length ∧ i = .int .i64 k ∧ ∃ (vo : Value) (xs : List Value), wr.ownsRow w2.heap.size 24 1 vo k xs ∧
    (∀ (j : Nat) (x : List (Int × Int)), j < k → H[j]? = some x → ∃ y b, xs[j]? = some y ∧ w2.heap.size ≤ b ∧ b < wr.heap.size ∧ SlR b (b + 1) wr y (x.map (mvp dx dy))) ∧
    (∀ j, j < w2.heap.size → j ≠ (w.heap.size + 1 + 1) → wr.heap[j]? = w2.heap[j]?) ∧ w2.heap.size ≤ wr.heap.size ∧ Blk w wr [((w.heap.size + 1 + 1), #[.int .i64 3, .slice Ao l.length co, vo], 27), (w.heap.size + 1, #[.int .i64 0, .slice none 0 0, .slice none 0 0], 27), (w.heap.size, #[.int .i64 3, v, vh], 27)]) (fun i _ => H.length - (intOf i).toNat)
  case atStart => exact ⟨0, Nat.zero_le _, rfl, .slice none 0 0, [], World.ownsRow_nil _ _ _ _, fun j x hj => absurd hj (Nat.not_lt_zero _), hkL, Nat.le_of_eq hszL.symm, stL⟩
  case round =>
    clear stL hkL hszL st3 z0 z1 z2 p0 p1 p2 fz fp x1
    obtain ⟨k, hkl, rfl, vo, xs, hown, hqs, hkw, hBr, hB⟩ := hrel
    rcases Nat.lt_or_ge k H.length with hlt | hge
    · obtain ⟨x, hx⟩ : ∃ x, H[k]? = some x := ⟨H[k], by simp [hlt]⟩
      obtain ⟨bb, y, rfl, f1, f2, h1, hrg⟩ := hk k (x.map (mvp dx dy)) (by rw [List.getElem?_map, hx]; rfl)
      obtain ⟨b2, rfl, hser⟩ := hrg
      have okx := hHm x (List.mem_of_getElem? hx)
      have hx0 : 0 < x.length := by have := (hH x (List.mem_of_getElem? hx)).1; omega
      have hlt' : (k : Int) < (H.length : Int) := by omega
      have hbb := World.block_lt_of_cell? w2 _ h1
      simp only at hbb
      have gy := (World.cell?_of_block (w := w2) (hkw bb hbb (by omega))).trans h1
      have hfg := fun g (hg : vo.ownBlock = some g) => hown.lt g hg
      have hrow := hB.known 0 _ rfl
      have hb7r := hB.lt 0 rfl
      have hwr := hB.hb.size
      have hnb : (w.heap.size + 1 + 1) ∉ vo.ownBlock.toList := by intro hm; simp at hm; have := (hfg _ hm).1; omega
      have hX : ∀ z ∈ (w.heap.size + 1 + 1) :: vo.ownBlock.toList, w.heap.size ≤ z := by intro z hm; simp at hm; rcases hm with hm | hm; omega; have := (hfg _ hm).1; omega
      have hser' := fun (u : World) (hG : Keep ((w.heap.size + 1 + 1) :: vo.ownBlock.toList) wr u) => SerP.keep hser (w' := u) (fun k1 q1 q2 q3 => (hG.block k1 (by omega) (by intro hm; simp at hm; rcases hm with hm | hm; omega; have := (hfg _ hm).1; omega)).trans (hkw k1 q3 (by omega)))
      have hm1000 : H.length ≤ 1000 := hm
      clear h1 hk hser
      go_wp2
      refine wp_region_K ((w.heap.size + 1 + 1) :: vo.ownBlock.toList) [.val (.pointer (some ⟨w.heap.size + 1 + 1, 2, none⟩)),
          .val vo,
          .val (.iface 107 (.pointer (some ⟨b2, 0, none⟩))),
          .slr (x.map (mvp dx dy)),
          .slcS 24 88,
          .appS vo k xs w2.heap.size 24 88,
          .val (.pointer (some ⟨w.heap.size + 1 + 1, 2, none⟩)),
          .turnS (w.heap.size + 1 + 1) #[.int .i64 3, .slice Ao l.length co, vo] 2 90 27]
        [[.ini 9], [.frm 0 85, .til 7], [.ini 17], [.frm 2 87], [.frm 3 88], [.frm 1 86, .frm 4 89, .til 5, .frm 3 88], [.ini 9], [.frm 6 91, .frm 5 90, .til 7]]
        mixed (by kernel_rfl) (by kernel_rfl) (allPre_of ⟨trivial, trivial, trivial, trivial, trivial, hown, trivial, hrow, trivial⟩)
        ⟨OpOk.quiet rfl ?_,
          OpOk.quiet rfl ?_,
          OpOk.quiet rfl ?_,
          OpOk.call rfl ?_,
          OpOk.slcS rfl ?_,
          OpOk.appS (inf := i0) rfl rfl Tryz.underlying25 hi' hz0 hz1 hz2 rfl (by unfold maxLen; omega) (by omega) hBr (fun _ hG => hG.size) (fun b hb => (hfg b hb).2) (fun b hb => ⟨row_still rfl, row_still rfl, row_still rfl, row_none rfl (fun h => (nomatch h)), row_slcS, row_self rfl, row_still rfl, row_turnS (by have := (hfg b hb).1; omega), trivial⟩) (fun b hb => oldFree_of ⟨.inr (fun h => (nomatch h)), .inr (fun h => (nomatch h)), .inr (fun h => (nomatch h)), .inr (fun h => (nomatch h)), .inr (fun h => (nomatch h)), .inl rfl, .inr (fun h => (nomatch h)), .inr (by have := (hfg b hb).1; simp [Ent.turnS]; omega), trivial⟩) ?_ (fun _ b _ hb h => Keep.setRow h (.inr (by simp [hb]))),
          OpOk.quiet rfl ?_,
          OpOk.turnS rfl rfl (lt_of_some hrow) ⟨row_still rfl, row_still rfl, row_still rfl, row_none rfl (fun h => (nomatch h)), row_slcS, row_appS hnb, row_still rfl, row_self rfl, trivial⟩ (oldFree_of ⟨.inr (fun h => (nomatch h)), .inr (fun h => (nomatch h)), .inr (fun h => (nomatch h)), .inr (fun h => (nomatch h)), .inr (fun h => (nomatch h)), .inr hnb, .inr (fun h => (nomatch h)), .inl rfl, trivial⟩) (by kernel_rfl) (by simp) ?_ (fun _ _ h => Keep.setRow h (.inr (by simp))), trivial⟩ ?_
      · intro a u _ hf
        simp [facts, Need.fact, Act.eval] at hf
        go_simp
      · intro a u _ hf
        obtain ⟨⟨_, _, f1⟩, f2, -⟩ := hf
        have f1' : a.eval (.tmp 85) = .pointer (some ⟨w.heap.size + 1 + 1, 2, none⟩) := f1
        have c11 := cellAt (show u.heap[w.heap.size + 1 + 1]? = some (.cells #[.int .i64 3, .slice Ao l.length co, vo] 27 (0, 0)) from f2) 2
        simp only [List.getElem?_toArray, List.getElem?_cons_zero, List.getElem?_cons_succ] at c11
        clear f1 f2
        simp [Act.eval] at f1'
        go_simp
      · intro a u _ hf
        simp [facts, Need.fact, Act.eval] at hf
        go_simp
      · intro a u hG hf
        simp [facts, Need.fact, Ent.val, Act.eval] at hf
        have hse2 := hser' _ hG
        refine ⟨_, _, by go_simp, (plainS_c 107 b2 (fun w => mBsNum _ w) (fun w => mBsAt _ w) (x.map (mvp dx dy)) (by have := okx.2.2.1; omega) (fun p hp => by have := okx.2.2.2 p hp; unfold Bnd at this; omega) true _ _ _ _ _ _ _ _ hse2).mono ?_⟩
        rintro e w' ⟨v', rfl, hr, hb⟩
        exact ⟨_, rfl, hb, hr⟩
      · intro a u _ hf
        obtain ⟨⟨_, _, f2⟩, -⟩ := hf
        obtain ⟨A9, c9, f3⟩ := SlR.len f2
        simp [Act.eval] at f3
        go_simp
      · intro a u _ hf
        obtain ⟨⟨_, _, f1⟩, ⟨_, _, b, f2, _, _, f3⟩, f4, ⟨_, _, f5⟩, -⟩ := hf
        obtain ⟨A9, c9, f6⟩ := SlR.len f5
        exact ⟨f1, f4, by rw [f6]; rfl, b, f2, f3⟩
      · intro a u _ hf
        simp [facts, Need.fact, Act.eval] at hf
        go_simp
      · intro a u _ hf
        obtain ⟨⟨_, _, f1⟩, ⟨_, _, f2, f5⟩, f4, -⟩ := hf
        exact ⟨f1, own_one f2, f4⟩
      intro u lw hw wc2 hKp hE hI hD
      simp [allE, Ent.appS, Ent.slcS, Ent.slr, Ent.turnS, Ent.val] at hE
      obtain ⟨u0, u1, u2, u3, -, u5, u6, e7⟩ := hE
      simp only [allPut, Act.put, u0, u2, u6]
      clear u0 u2 u6

      simp [allPut, Act.put, Act.eval] at e7
      replace u3 : SlR (lw 3) (hw 3) wc2 (u 3) (x.map (mvp dx dy)) := u3
      obtain ⟨o5, -⟩ := u5
      simp [allPut, Act.put, Act.eval] at o5
      have i3 := hI 3 (by show 3 < 8; omega)
      have hxsl : xs.length = k := by have := hown.1; omega
      have h00 : 0 < k → ∃ A m c, xs[0]? = some (.slice A m c) := by
        intro hk0
        obtain ⟨y0, b0, e1, e2, e3, e4⟩ := hqs 0 (H[0]'(by omega)) hk0 (by simp)
        obtain ⟨A', c', e4⟩ := e4.len
        exact ⟨A', _, c', by rw [e1, e4]⟩
      have hqs2 : ∀ (j : Nat) (x2 : List (Int × Int)), j < k + 1 → H[j]? = some x2 → ∃ y b, (xs ++ [u 3])[j]? = some y ∧ w2.heap.size ≤ b ∧ b < wc2.heap.size ∧ SlR b (b + 1) wc2 y (x2.map (mvp dx dy)) := by
        intro j x2 hj hx2
        by_cases hjk : j = k
        · subst hjk
          rw [hx] at hx2
          cases hx2
          obtain ⟨b1, j1, j2, j3, r1⟩ := u3.one (by simp; exact hx0)
          exact ⟨u 3, b1, by rw [List.getElem?_append_right (by omega)]; simp [hxsl], by have := i3.2; omega, j3, r1⟩
        · obtain ⟨y', b', e1, e2, e3, e4⟩ := hqs j x2 (by omega) hx2
          have hx20 : 0 < x2.length := by have := (hH x2 (List.mem_of_getElem? hx2)).1; omega
          have hne := own_neR hown (h00 (by omega)) e4 (by simp; exact hx20)
          refine ⟨y', b', by rw [List.getElem?_append_left (by omega)]; exact e1, e2, Nat.lt_of_lt_of_le e3 hKp.size, e4.keep' fun b h1 h2 h3 => ?_⟩
          have hbb : b = b' := by omega
          subst hbb
          exact hKp.block b h3 (by
            intro hm
            simp at hm
            rcases hm with hm | hm
            · omega
            · exact hne hm.symm)
      have hkw2 : ∀ j, j < w2.heap.size → j ≠ (w.heap.size + 1 + 1) → wc2.heap[j]? = w2.heap[j]? := fun j q1 q2 => (hKp.block j (by omega) (by
        intro hm
        simp at hm
        rcases hm with hm | hm
        · omega
        · have := (hfg _ hm).1; omega)).trans (hkw j q1 q2)
      have hB2 := (hB.tail.keep hKp (fun i z hz => by
        intro hm
        simp at hm
        rcases i with _ | _ | i <;> simp at hz <;> subst hz <;> simp at hm <;> first | (have := (hfg _ hm).1; omega) | (rcases hm with hm | hm; omega; have := (hfg _ hm).1; omega)) (fun z hz => hX z hz)).add e7
      have hBs2 : w2.heap.size ≤ wc2.heap.size := Nat.le_trans hBr hKp.size
      try simp only [List.setIfInBounds_toArray, List.set_cons_zero, List.set_cons_succ]
      simp only [u1]
      generalize u 5 = y5 at *
      generalize u 4 = y4 at *
      generalize u 3 = y3 at *
      clear hKp hI hD e7 u1 u3 i3 hqs hkw hB hown hrow gy h00 hnb hX hfg hx okx hser'
      go_wp2
      go_roundw
      case rel => exact ⟨k + 1, by omega, by go_num, _, _, o5, hqs2, hkw2, hBs2, hB2⟩
      case measure => simp [intOf]; omega
    · have hkk : k = H.length := by omega
      subst hkk
      have hol := SlH.own (H := H.map (fun x => x.map (mvp dx dy))) (by simpa using hown) (fun j x hj hx => by
        simp at hx hj
        obtain ⟨x0, hx0, rfl⟩ := hx
        obtain ⟨y, b, e1, -, -, e2⟩ := hqs j x0 hj hx0
        exact ⟨y, e1, e2.p⟩)
      obtain ⟨Av, cv, hvo⟩ : ∃ A c, vo = .slice A H.length c := by
        obtain ⟨A, c, h1, -⟩ := id hol
        exact ⟨A, c, by simpa using h1⟩
      subst hvo
      clear hol hk
      have z0 := hB.cell 0 rfl 0
      have z1 := hB.cell 0 rfl 1
      have z2 := hB.cell 0 rfl 2
      have p0 := hB.cell 1 rfl 0
      have p1 := hB.cell 1 rfl 1
      have p2 := hB.cell 1 rfl 2
      have fz := fun o => hB.frozen 0 rfl o
      have fp := fun o => hB.frozen 1 rfl o
      simp only [List.getElem?_toArray, List.getElem?_cons_zero, List.getElem?_cons_succ] at z0 z1 z2 p0 p1 p2
      have hgr : wr.grownBy (((wr.setCell ⟨w.heap.size + 1, 0, none⟩ (.int .i64 3)).setCell ⟨w.heap.size + 1, 1, none⟩ (.slice Ao l.length co)).setCell ⟨w.heap.size + 1, 2, none⟩ (.slice Av H.length cv)) (some (w.heap.size + 1)) :=
        ⟨rfl, rfl, rfl, by simp, fun k hk hne => (Below.heap_setCell _ _ _ _ (fun h => hne (by rw [h]))).trans ((Below.heap_setCell _ _ _ _ (fun h => hne (by rw [h]))).trans (Below.heap_setCell _ _ _ _ (fun h => hne (by rw [h]))))⟩
      have hown2 := hown.kept hgr (.inr (fun h => by have := (hown.lt _ h).1; omega))
      have sp2 := (r5.keep' (w' := (((wr.setCell ⟨w.heap.size + 1, 0, none⟩ (.int .i64 3)).setCell ⟨w.heap.size + 1, 1, none⟩ (.slice Ao l.length co)).setCell ⟨w.heap.size + 1, 2, none⟩ (.slice Av H.length cv))) (fun b q1 q2 q3 => (hgr.block b (by omega) (by simp; omega)).trans (hkw b q3 (by omega)))).wide (l' := w.heap.size) (h' := wr.heap.size) (by omega) (by omega)
      have hol2 := SlHR.own (lo := w.heap.size) (hi := wr.heap.size) (H := H.map (fun x => x.map (mvp dx dy))) (by simpa using hown2) (by omega) (by simp) (fun j x hj hx => by
        simp at hx hj
        obtain ⟨x0, hx0, rfl⟩ := hx
        obtain ⟨y, b, e1, e3, e4, e2⟩ := hqs j x0 hj hx0
        exact ⟨y, e1, (e2.keep' (fun b h1 h2 h3 => hgr.block b h3 (by simp; omega))).wide (by omega) (by omega)⟩)
      have stF := (((hB).put 1 (o := 0) (v := .int .i64 3) rfl ⟨.inr (by show _ ≠ _; omega), .inl rfl, .inr (by show _ ≠ _; omega), trivial⟩ (by omega)).put 1 (o := 1) (v := .slice Ao l.length co) rfl ⟨.inr (by show _ ≠ _; omega), .inl rfl, .inr (by show _ ≠ _; omega), trivial⟩ (by omega)).put 1 (o := 2) (v := .slice Av H.length cv) rfl ⟨.inr (by show _ ≠ _; omega), .inl rfl, .inr (by show _ ≠ _; omega), trivial⟩ (by omega)
      clear hgr hown2 hqs hown hB
      have t0 := stF.cell 1 rfl 0
      have t1 := stF.cell 1 rfl 1
      have t2 := stF.cell 1 rfl 2
      simp at t0 t1 t2
      go_wp2
      exact bodyPost_ret (v := .agg #[.int .i64 3, .slice Ao l.length co, .slice Av H.length cv]) (by simp [results, Tryz.results13, go_sem, t0, t1, t2]) rfl ⟨_, _, rfl, by simpa using sp2, by simpa using hol2, stF.hb⟩


set_option maxRecDepth 100000 in
set_option maxHeartbeats 2000000 in
theorem moved1_c (X0 Y0 X1 Y1 dx dy : Int) (h1 : X0.natAbs ≤ 500000 ∧ Y0.natAbs ≤ 500000 ∧ X1.natAbs ≤ 500000 ∧ Y1.natAbs ≤ 500000) (h2 : dx.natAbs ≤ 500000 ∧ dy.natAbs ≤ 500000) (v vh : Value) (w : World) (hv : SlP w v [(X0, Y0), (X1, Y1)]) :
    Calls Tryz.prog 13 #[.agg #[.int .i64 1, v, vh], .int .i64 dx, .int .i64 dy] w (VsR 1 [(X0 + dx, Y0 + dy), (X1 + dx, Y1 + dy)] [] w) := by
  have st0 := (((Blk.nil w).push rfl #[.int .i64 1, v, vh] 27).push (b := w.heap.size + 1) (by simp) #[.int .i64 0, .slice none 0 0, .slice none 0 0] 27).push (b := w.heap.size + 1 + 1) (by simp) #[.int .i64 1, .slice none 0 0, .slice none 0 0] 27
  have s0 := hv.below st0.hb
  have c0 := st0.cell 2 rfl 0
  have c1 := st0.cell 2 rfl 1
  have c2 := st0.cell 2 rfl 2
  simp only [List.getElem?_toArray, List.getElem?_cons_zero, List.getElem?_cons_succ] at c0 c1 c2
  have hcx : floatOfInt FloatKind.f64 dx = fb dx := rfl
  have hcy : floatOfInt FloatKind.f64 dy = fb dy := rfl
  clear hv
  go_enter Tryz.func13, Tryz.ntmps13
  go_wp2
  refine wp_region_K [] [.val (.agg #[.int .i64 1, v, vh]),
      .ptrTo 101 #[.int .u8 0, .int .i64 0],
      .val (.iface 62 (.agg #[fl (fb X0), fl (fb Y0), fl (fb X1), fl (fb Y1)]))]
    [[.ini 3], [], [.frm 0 25, .frm 1 26]]
    mixed (by kernel_rfl) (by kernel_rfl) (allPre_of ⟨trivial, trivial, trivial, trivial⟩)
    ⟨OpOk.quiet rfl ?_,
      OpOk.call rfl ?_,
      OpOk.call rfl ?_, trivial⟩ ?_
  · intro a u hG hf
    simp [facts, Need.fact, Act.eval] at hf
    have hc := True.intro
    have y0 := (hG.cell (p := ⟨w.heap.size, 0, none⟩) (st0.lt 2 rfl) (by simp)).trans c0
    have y1 := (hG.cell (p := ⟨w.heap.size, 1, none⟩) (st0.lt 2 rfl) (by simp)).trans c1
    have y2 := (hG.cell (p := ⟨w.heap.size, 2, none⟩) (st0.lt 2 rfl) (by simp)).trans c2

    go_simp
  · intro a u hG _
    refine ⟨_, _, by go_simp, (index0_c _).mono ?_⟩
    rintro e w' ⟨rfl, rfl⟩
    exact ⟨_, rfl, Ext.alloc _ _, u.heap.size, rfl, Nat.le_refl _, by simp, alloc_get _ _⟩
  · intro a u hG hf
    simp [facts, Need.fact, Ent.of, Ent.val, Act.eval] at hf
    have s1 := s0.below (Keep.below hG)
    obtain ⟨l5, h5, b, hp, -, -, hcl⟩ := hf.2
    have hf1 := hf.1
    have hsh := shaped1_c X0 Y0 X1 Y1 v vh (.pointer (some ⟨b, 0, none⟩)) u s1
    refine ⟨_, _, by go_simp, hsh.mono ?_⟩
    rintro e w' ⟨rfl, hb⟩
    exact ⟨_, rfl, hb, rfl⟩
  intro u lw hw wc hK hE hI hD
  simp [allE, Ent.ptrTo, Ent.val] at hE
  obtain ⟨u0, -, u2⟩ := hE
  simp only [allPut, Act.put, u0]
  clear u0
  simp only [u2]
  clear u2
  generalize u (0 + 1) = e1 at *
  generalize u (0 + 1 + 1) = e2 at *
  try simp only [List.setIfInBounds_toArray, List.set_cons_zero, List.set_cons_succ]
  have st1 := st0.keep hK (fun i x _ => by simp) (fun x hx => by simp at hx)
  clear hK hI hD c0 c1 c2 s0 st0
  have ha1 := asRcPt
  have ha := asRc
  have rx := fb_rep (X0 + dx) (by omega)
  have ry := fb_rep (Y0 + dy) (by omega)
  have rz := fb_rep (X1 + dx) (by omega)
  have rt := fb_rep (Y1 + dy) (by omega)
  go_wp2_with (go_at_call 26; refine JR.StopM.out ?_)
  refine ⟨?_⟩
  refine (rcMove_c X0 Y0 X1 Y1 dx dy (by omega) (by omega) _).mono ?_
  rintro e w1 ⟨rfl, hb⟩
  have st2 := (st1.push rfl #[fl (fb X0), fl (fb Y0), fl (fb X1), fl (fb Y1)] 62).ext hb
  have st3 := st2.tail.push (b := w1.heap.size) rfl #[fl (fb (X0 + dx)), fl (fb (Y0 + dy)), fl (fb (X1 + dx)), fl (fb (Y1 + dy))] 62
  have hw1 := st2.lt 1 rfl
  clear hb st2 st1
  have d0 := st3.cell 0 rfl 0
  have d1 := st3.cell 0 rfl 1
  have d2 := st3.cell 0 rfl 2
  have d3 := st3.cell 0 rfl 3
  simp only [List.getElem?_toArray, List.getElem?_cons_zero, List.getElem?_cons_succ] at d0 d1 d2 d3
  have hrow := st3.known 1 _ rfl
  go_wp2
  refine wp_region_K [(w.heap.size + 1 + 1)] [.val (.pointer (some ⟨w1.heap.size, 0, none⟩)),
      .val (.agg #[fl (fb (X0 + dx)), fl (fb (Y0 + dy))]),
      .val (.agg #[.int .i64 (X0 + dx), .int .i64 (Y0 + dy)]),
      .val (.pointer (some ⟨w1.heap.size, 2, none⟩)),
      .val (.agg #[fl (fb (X1 + dx)), fl (fb (Y1 + dy))]),
      .val (.agg #[.int .i64 (X1 + dx), .int .i64 (Y1 + dy)]),
      .slcN 32 2 #[.int .i64 (X0 + dx), .int .i64 (Y0 + dy), .int .i64 (X1 + dx), .int .i64 (Y1 + dy)],
      .val (.pointer (some ⟨w.heap.size + 1 + 1, 1, none⟩)),
      .turnS (w.heap.size + 1 + 1) #[.int .i64 1, .slice none 0 0, .slice none 0 0] 1 51 27]
    [[.ini 12], [.frm 0 45], [.frm 1 46], [.ini 12], [.frm 3 48], [.frm 4 49], [.frm 2 47, .frm 5 50], [.ini 9], [.frm 7 52, .frm 6 51, .til 8]]
    mixed (by kernel_rfl) (by kernel_rfl) (allPre_of ⟨trivial, trivial, trivial, trivial, trivial, trivial, trivial, trivial, hrow, trivial⟩)
    ⟨OpOk.quiet rfl ?_,
      OpOk.quiet rfl ?_,
      OpOk.call rfl ?_,
      OpOk.quiet rfl ?_,
      OpOk.quiet rfl ?_,
      OpOk.call rfl ?_,
      OpOk.adds rfl ?_,
      OpOk.quiet rfl ?_,
      OpOk.turnS rfl rfl (lt_of_some hrow) ⟨row_still rfl, row_still rfl, row_still rfl, row_still rfl, row_still rfl, row_still rfl, row_none rfl (fun h => (nomatch h)), row_still rfl, row_self rfl, trivial⟩ (oldFree_of ⟨.inr (fun h => (nomatch h)), .inr (fun h => (nomatch h)), .inr (fun h => (nomatch h)), .inr (fun h => (nomatch h)), .inr (fun h => (nomatch h)), .inr (fun h => (nomatch h)), .inr (fun h => (nomatch h)), .inr (fun h => (nomatch h)), .inl rfl, trivial⟩) (by kernel_rfl) (by simp) ?_ (fun _ _ h => Keep.setRow h (.inr (by simp))), trivial⟩ ?_
  · intro a u _ hf
    simp [facts, Need.fact, Act.eval] at hf
    go_simp
  · intro a u hG hf
    simp [facts, Need.fact, Ent.val, Act.eval] at hf
    have hc := fun (o : Nat) => hG.cell (p := ⟨w1.heap.size, o, none⟩) (st3.lt 0 rfl) (by simp; omega)
    go_simp
  · intro a u _ hf
    simp [facts, Need.fact, Ent.val, Act.eval] at hf
    refine ⟨_, _, by go_simp, (from_c rx ry _).mono ?_⟩
    rintro e w' ⟨rfl, hb⟩
    exact ⟨_, rfl, hb, rfl⟩
  · intro a u _ hf
    simp [facts, Need.fact, Act.eval] at hf
    go_simp
  · intro a u hG hf
    simp [facts, Need.fact, Ent.val, Act.eval] at hf
    have hc := fun (o : Nat) => hG.cell (p := ⟨w1.heap.size, o, none⟩) (st3.lt 0 rfl) (by simp; omega)
    go_simp
  · intro a u _ hf
    simp [facts, Need.fact, Ent.val, Act.eval] at hf
    refine ⟨_, _, by go_simp, (from_c rz rt _).mono ?_⟩
    rintro e w' ⟨rfl, hb⟩
    exact ⟨_, rfl, hb, rfl⟩
  · intro a u _ hf
    simp [facts, Need.fact, Ent.val, Act.eval] at hf
    exact ⟨_, _, by go_simp, Ext.alloc _ _, u.heap.size, rfl, Nat.le_refl _, by simp, alloc_get _ _⟩
  · intro a u _ hf
    simp [facts, Need.fact, Act.eval] at hf
    go_simp
  · intro a u _ hf
    obtain ⟨⟨_, _, f1⟩, ⟨_, _, f2⟩, f3, -⟩ := hf
    obtain ⟨b3, f2, -⟩ := f2
    exact ⟨f1, by rw [f2]; rfl, f3⟩
  intro u lw hw wc2 hK hE hI hD
  simp [allE, Ent.slcN, Ent.turnS, Ent.val] at hE
  obtain ⟨u0, u1, u2, u3, u4, u5, u6, u7, e8⟩ := hE
  simp only [allPut, Act.put, u0, u1, u2, u3, u4, u5, u7]
  clear u0 u1 u2 u3 u4 u5 u7
  simp [allPut, Act.put, Act.eval] at e8
  obtain ⟨bs, e6', k1, k2, g6⟩ := u6
  rw [e6'] at e8
  simp only [e6']
  clear e6'
  have i6 := hI 6 (by show 6 < 9; omega)
  have hbs : w1.heap.size + 1 ≤ bs := by have := i6.2; simp at this; omega
  have st4 := ((st3.tail.tail.keep hK (fun i z hz => by rcases i with _ | _ | i <;> simp at hz <;> subst hz <;> simp <;> omega) (by intro z hz; simp at hz; omega)).add e8).add g6
  try simp only [List.setIfInBounds_toArray, List.set_cons_zero, List.set_cons_succ]
  generalize u (0 + 1 + 1 + 1 + 1 + 1 + 1) = e6 at *
  clear hK hI hD e8 g6 i6 hrow d0 d1 d2 d3 st3 rx ry rz rt
  have hne5 : bs ≠ w.heap.size + 1 := by omega
  have z0 := st4.cell 1 rfl 0
  have z1 := st4.cell 1 rfl 1
  have z2 := st4.cell 1 rfl 2
  have p0 := st4.cell 2 rfl 0
  have p1 := st4.cell 2 rfl 1
  have p2 := st4.cell 2 rfl 2
  have fz := fun o => st4.frozen 1 rfl o
  have fp := fun o => st4.frozen 2 rfl o
  simp only [List.getElem?_toArray, List.getElem?_cons_zero, List.getElem?_cons_succ] at z0 z1 z2 p0 p1 p2
  have stF := (((st4).put 2 (o := 0) (v := .int .i64 1) rfl ⟨.inr (by show _ ≠ _; omega), .inr (by show _ ≠ _; omega), .inl rfl, .inr (by show _ ≠ _; omega), trivial⟩ (by omega)).put 2 (o := 1) (v := .slice (some ⟨bs, 0, none⟩) 2 2) rfl ⟨.inr (by show _ ≠ _; omega), .inr (by show _ ≠ _; omega), .inl rfl, .inr (by show _ ≠ _; omega), trivial⟩ (by omega)).put 2 (o := 2) (v := .slice none 0 0) rfl ⟨.inr (by show _ ≠ _; omega), .inr (by show _ ≠ _; omega), .inl rfl, .inr (by show _ ≠ _; omega), trivial⟩ (by omega)
  have t0 := stF.cell 2 rfl 0
  have t1 := stF.cell 2 rfl 1
  have t2 := stF.cell 2 rfl 2
  simp at t0 t1 t2
  go_wp2
  exact bodyPost_ret (v := .agg #[.int .i64 1, .slice (some ⟨bs, 0, none⟩) 2 2, .slice none 0 0]) (by simp [results, Tryz.results13, go_sem, t0, t1, t2]) rfl ⟨_, _, rfl, stF.slr2 0 (by omega) (stF.lt 0 rfl) rfl, ⟨none, 0, rfl, fun k x hx => by simp at hx⟩, stF.hb⟩
end Go.Proofs.YtlchljkmipejdaaGreat
/-! Moved, of every shape. -/
namespace PF
open Go Go.RowKit JR
def ShpM (K : Int) (l : List (Int × Int)) (H : List (List (Int × Int))) (m : Nat) : Prop :=
  ((K = 0 ∧ l.length = 1) ∨ (K = 1 ∧ l.length = 2) ∨ (K = 2 ∧ 2 ≤ l.length) ∨ (K = 3 ∧ 3 ≤ l.length)) ∧ l.length ≤ 12 ∧ (K ≠ 3 → H = []) ∧ H.length ≤ 3 ∧
  (∀ x ∈ H, 3 ≤ x.length ∧ x.length ≤ 8 ∧ ∀ p ∈ x, p.1.natAbs ≤ m ∧ p.2.natAbs ≤ m) ∧ ∀ p ∈ l, p.1.natAbs ≤ m ∧ p.2.natAbs ≤ m
theorem mv_m {m d : Nat} {dx dy : Int} (hd : dx.natAbs ≤ d ∧ dy.natAbs ≤ d) {l : List (Int × Int)} (h : ∀ p ∈ l, p.1.natAbs ≤ m ∧ p.2.natAbs ≤ m) : ∀ p ∈ l.map (mvp dx dy), p.1.natAbs ≤ m + d ∧ p.2.natAbs ≤ m + d := by
  intro p hp
  simp only [List.mem_map] at hp
  obtain ⟨q, hq, rfl⟩ := hp
  have := h q hq
  unfold mvp
  simp only
  omega
theorem ShpM.mv {K : Int} {l : List (Int × Int)} {H : List (List (Int × Int))} {m d : Nat} {dx dy : Int} (h : ShpM K l H m) (hd : dx.natAbs ≤ d ∧ dy.natAbs ≤ d) : ShpM K (l.map (mvp dx dy)) (H.map (fun x => x.map (mvp dx dy))) (m + d) := by
  obtain ⟨h1, h2, h3, h4, h5, h6⟩ := h
  refine ⟨by simpa using h1, by simpa using h2, fun hk => by rw [h3 hk]; rfl, by simpa using h4, fun x hx => ?_, mv_m hd h6⟩
  simp only [List.mem_map] at hx
  obtain ⟨y, hy, rfl⟩ := hx
  obtain ⟨g1, g2, g3⟩ := h5 y hy
  exact ⟨by simpa using g1, by simpa using g2, mv_m hd g3⟩
theorem ShpM.hole {K : Int} {l : List (Int × Int)} {H : List (List (Int × Int))} {m : Nat} (h : ShpM K l H m) (hm : m ≤ 1000000) : ∀ x ∈ H, okL true x := fun x hx => by
  obtain ⟨g1, g2, g3⟩ := h.2.2.2.2.1 x hx
  exact ⟨by omega, fun _ => g1, by omega, fun p hp => by have := g3 p hp; unfold Bnd; omega⟩
theorem ShpM.ok {K : Int} {l : List (Int × Int)} {H : List (List (Int × Int))} {m : Nat} (h : ShpM K l H m) (hm : m ≤ 1000000) : ShpOk K l H := by
  have hb : ∀ p ∈ l, Bnd p := fun p hp => by have := h.2.2.2.2.2 p hp; unfold Bnd; omega
  have hH := h.hole hm
  obtain ⟨h1, h2, h3, h4, h5, h6⟩ := h
  refine ⟨?_, hb⟩
  rcases h1 with ⟨hk, hl⟩ | ⟨hk, hl⟩ | ⟨hk, hl⟩ | ⟨hk, hl⟩
  · exact .inl ⟨hk, hl⟩
  · exact .inr (.inl ⟨hk, hl⟩)
  · exact .inr (.inr (.inl ⟨hk, hl, fun h => (nomatch h), by omega, hb⟩))
  · exact .inr (.inr (.inr ⟨hk, ⟨by omega, fun _ => hl, by omega, hb⟩, hH, by omega⟩))
theorem VaryS.shpM {K : Int} {l : List (Int × Int)} {H : List (List (Int × Int))} (h : VaryS K l H) : ShpM K l H 1024 := by
  obtain ⟨h1, h2, h3, h4, h5⟩ := h
  refine ⟨?_, ?_, h3, h2, fun x hx => ⟨(h4 x hx).1, (h4 x hx).2.1, okP_m (h4 x hx).2.2⟩, okP_m h1⟩
  · rcases h5 with ⟨hk, hl⟩ | ⟨hk, a, b, c, d, hl, -⟩ | ⟨hk, hl, hl'⟩ | ⟨hk, hl, hl'⟩
    · exact .inl ⟨hk, hl⟩
    · exact .inr (.inl ⟨hk, by rw [hl]; rfl⟩)
    · exact .inr (.inr (.inl ⟨hk, hl⟩))
    · exact .inr (.inr (.inr ⟨hk, hl⟩))
  · rcases h5 with ⟨hk, hl⟩ | ⟨hk, a, b, c, d, hl, -⟩ | ⟨hk, hl, hl'⟩ | ⟨hk, hl, hl'⟩
    · omega
    · rw [hl]; simp
    · omega
    · omega
theorem mvp_mvp (a b c d : Int) (p : Int × Int) : mvp c d (mvp a b p) = mvp (a + c) (b + d) p := by
  unfold mvp; simp only [Prod.mk.injEq]; omega
theorem mvp_zero (p : Int × Int) : mvp 0 0 p = p := by
  unfold mvp; simp
theorem map_mvp (a b c d : Int) (l : List (Int × Int)) : (l.map (mvp a b)).map (mvp c d) = l.map (mvp (a + c) (b + d)) := by
  rw [List.map_map]; exact List.map_congr_left fun p _ => mvp_mvp a b c d p
theorem map_zero (l : List (Int × Int)) : l.map (mvp 0 0) = l := by
  rw [List.map_congr_left (g := id) fun p _ => mvp_zero p, List.map_id]
end PF
namespace Go.Proofs.YtlchljkmipejdaaGreat
open Go.RowKit PF JR
theorem moved_c (K : Int) (l : List (Int × Int)) (H : List (List (Int × Int))) (m : Nat) (h : ShpM K l H m) (hm : m ≤ 400000) (dx dy : Int) (hd : dx.natAbs ≤ 100000 ∧ dy.natAbs ≤ 100000) (v vh : Value) (w : World) (hv : SlP w v l) (hh : SlH w vh H) :
    Calls Tryz.prog 13 #[.agg #[.int .i64 K, v, vh], .int .i64 dx, .int .i64 dy] w (VsR K (l.map (mvp dx dy)) (H.map (fun x => x.map (mvp dx dy))) w) := by
  have hmv := (h.mv hd).ok (by omega)
  have hmh := (h.mv hd).hole (by omega)
  have hol := h.hole (by omega)
  have hok := h.ok (by omega)
  obtain ⟨h1, h2, h3, h4, h5, h6⟩ := h
  rcases h1 with ⟨rfl, hl⟩ | ⟨rfl, hl⟩ | ⟨rfl, hl⟩ | ⟨rfl, hl⟩
  · obtain rfl := h3 (by decide)
    obtain ⟨p, rfl⟩ := List.length_eq_one_iff.1 hl
    have hp := h6 p (by simp)
    exact moved0_c p.1 p.2 dx dy (by omega) (by omega) v vh w hv
  · obtain rfl := h3 (by decide)
    match l, hl, h6, hv with
    | [p, q], _, h6, hv =>
      have hp := h6 p (by simp)
      have hq := h6 q (by simp)
      exact moved1_c p.1 p.2 q.1 q.2 dx dy (by omega) (by omega) v vh w hv
  · obtain rfl := h3 (by decide)
    have o1 : okL false l := by
      rcases hok.1 with ⟨h, -⟩ | ⟨h, -⟩ | ⟨-, h⟩ | ⟨h, -⟩
      · cases h
      · cases h
      · exact h
      · cases h
    have o2 : okL false (l.map (mvp dx dy)) := by
      rcases hmv.1 with ⟨h, -⟩ | ⟨h, -⟩ | ⟨-, h⟩ | ⟨h, -⟩
      · cases h
      · cases h
      · exact h
      · cases h
    exact moved2_c l o1 dx dy (by omega) o2 (by omega) v vh w hv
  · have o1 : okL true l := by
      rcases hok.1 with ⟨h, -⟩ | ⟨h, -⟩ | ⟨h, -⟩ | ⟨-, h, -⟩
      · cases h
      · cases h
      · cases h
      · exact h
    have o2 : okL true (l.map (mvp dx dy)) := by
      rcases hmv.1 with ⟨h, -⟩ | ⟨h, -⟩ | ⟨h, -⟩ | ⟨-, h, -⟩
      · cases h
      · cases h
      · cases h
      · exact h
    exact moved3_c l H o1 hol (by omega) dx dy (by omega) o2 (fun x hx => hmh _ (List.mem_map.2 ⟨x, hx, rfl⟩)) (by omega) (fun x hx => by have := (h5 x hx).2.1; omega) v vh w hv hh
end Go.Proofs.YtlchljkmipejdaaGreat
