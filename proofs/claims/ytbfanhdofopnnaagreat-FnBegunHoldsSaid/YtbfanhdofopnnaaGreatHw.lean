import Derived.Test.YtbfanhdofopnnaaGreatQH
import Derived.Test.YtbfanhdofopnnaaGreatIv
import Derived.Test.YtbfanhdofopnnaaGreatVn
import Derived.Test.YtbfanhdofopnnaaGreatVr
set_option linter.unusedSimpArgs false
set_option linter.unusedVariables false
/-! varyShape of every kind: results with block ranges (printed by gen/hw.py). -/
namespace PF
open Go Go.RowKit JR
theorem SlR.keep' {l h : Nat} {w w' : World} {v : Value} {L : List (Int × Int)} (hk : ∀ b, l ≤ b → b < h → b < w.heap.size → w'.heap[b]? = w.heap[b]?) (H : SlR l h w v L) : SlR l h w' v L := by
  obtain ⟨A, c, hv, hh⟩ := H
  refine ⟨A, c, hv, fun k p hp => ?_⟩
  obtain ⟨b, h1, h4, h5, h2, h3⟩ := hh k p hp
  have hb := World.block_lt_of_cell? w _ h2
  exact ⟨b, h1, h4, h5, (World.cell?_of_block (hk b h4 h5 hb)).trans h2, (World.cell?_of_block (hk b h4 h5 hb)).trans h3⟩
theorem SlR.len {l h : Nat} {w : World} {v : Value} {L : List (Int × Int)} (H : SlR l h w v L) : ∃ A c, v = .slice A L.length c := by
  obtain ⟨A, c, hv, _⟩ := H
  exact ⟨A, c, hv⟩
theorem SlR.one {lo h : Nat} {u : World} {v : Value} {l : List (Int × Int)} (H : SlR lo h u v l) (hne : 0 < l.length) : ∃ b, lo ≤ b ∧ b < h ∧ b < u.heap.size ∧ SlR b (b + 1) u v l := by
  obtain ⟨A, c, hv, hk⟩ := H
  obtain ⟨b, hA, h1, h2, h3, -⟩ := hk 0 (l[0]) (by simp [hne])
  refine ⟨b, h1, h2, World.block_lt_of_cell? u _ h3, A, c, hv, fun k p hp => ?_⟩
  obtain ⟨b', hA', -, -, g1, g2⟩ := hk k p hp
  rw [hA] at hA'
  cases hA'
  exact ⟨b, hA, Nat.le_refl _, by omega, g1, g2⟩
theorem own_neR {w : World} {base n : Nat} {T : TypeId} {v : Value} {xs : List Value} {b : Nat} {x : Value} {l : List (Int × Int)} (H : w.ownsRow base T 1 v n xs) (h0 : ∃ A m c, xs[0]? = some (.slice A m c))
    (hs : SlR b (b + 1) w x l) (hne : 0 < l.length) : some b ≠ v.ownBlock := by
  intro he
  obtain ⟨A, m, c, h0⟩ := h0
  have h1 := H.cells he.symm _ _ h0
  obtain ⟨A', c', hv, hk⟩ := hs
  obtain ⟨b', hA', g1, g2, g3, -⟩ := hk 0 (l[0]) (by simp [hne])
  have hb : b' = b := by omega
  subst hb
  have e : (⟨b', 0, none⟩ : Addr).add 0 = ⟨b', 0 + 0 * 2, none⟩ := by unfold Addr.add; split <;> simp_all
  rw [e, g3] at h1
  cases h1
theorem SlH.own {w : World} {base : Nat} {T : TypeId} {v : Value} {xs : List Value} {H : List (List (Int × Int))} (hown : w.ownsRow base T 1 v H.length xs)
    (hqs : ∀ (j : Nat) (x : List (Int × Int)), j < H.length → H[j]? = some x → ∃ y, xs[j]? = some y ∧ SlP w y x) : SlH w v H := by
  rcases id hown.2 with ⟨rfl, h0⟩ | ⟨g, cap, cur, rfl, _⟩
  · have : H = [] := List.eq_nil_of_length_eq_zero h0
    subst this
    exact ⟨none, 0, rfl, fun k p hp => by simp at hp⟩
  · refine ⟨_, _, rfl, fun k x hx => ?_⟩
    have hkl : k < H.length := by
      rcases Nat.lt_or_ge k H.length with h | h
      · exact h
      · rw [List.getElem?_eq_none h] at hx; cases hx
    obtain ⟨y, e1, e3⟩ := hqs k x hkl hx
    have a1 := hown.cells (g := g) rfl _ _ e1
    have e : (⟨g, 0, none⟩ : Addr).add k = ⟨g, 0 + k, none⟩ := by unfold Addr.add; split <;> simp_all
    rw [e] at a1
    exact ⟨g, 0, y, rfl, a1, e3⟩
theorem SlR.wide {l h l' h' : Nat} {w : World} {v : Value} {L : List (Int × Int)} (H : SlR l h w v L) (h1 : l' ≤ l) (h2 : h ≤ h') : SlR l' h' w v L := by
  obtain ⟨A, c, hv, hh⟩ := H
  refine ⟨A, c, hv, fun k p hp => ?_⟩
  obtain ⟨b, h1, h4, h5, h2, h3⟩ := hh k p hp
  exact ⟨b, h1, by omega, by omega, h2, h3⟩
/-- a slice of slices of points, all of it in blocks from number lo up to hi -/
def SlHR (lo hi : Nat) (w : World) (v : Value) (H : List (List (Int × Int))) : Prop :=
  ∃ A c, v = .slice A H.length c ∧ ∀ k h, H[k]? = some h → ∃ b y, A = some ⟨b, 0, none⟩ ∧ lo ≤ b ∧ b < hi ∧ w.cell? ⟨b, 0 + k, none⟩ = some y ∧ SlR lo hi w y h
theorem SlHR.h {lo hi : Nat} {w : World} {v : Value} {H : List (List (Int × Int))} (h : SlHR lo hi w v H) : SlH w v H := by
  obtain ⟨A, c, hv, hk⟩ := h
  refine ⟨A, c, hv, fun k x hx => ?_⟩
  obtain ⟨b, y, h1, -, -, h2, h3⟩ := hk k x hx
  exact ⟨b, 0, y, h1, h2, h3.p⟩
theorem SlHR.keep {lo hi : Nat} {w w' : World} {v : Value} {H : List (List (Int × Int))} (hb : ∀ b, lo ≤ b → b < hi → w'.heap[b]? = w.heap[b]?) (h : SlHR lo hi w v H) : SlHR lo hi w' v H := by
  obtain ⟨A, c, hv, hk⟩ := h
  refine ⟨A, c, hv, fun k x hx => ?_⟩
  obtain ⟨b, y, h1, h4, h5, h2, h3⟩ := hk k x hx
  exact ⟨b, y, h1, h4, h5, (World.cell?_of_block (hb b h4 h5)).trans h2, h3.keep hb⟩
theorem SlHR.own {w : World} {base lo hi : Nat} {T : TypeId} {v : Value} {xs : List Value} {H : List (List (Int × Int))} (hown : w.ownsRow base T 1 v H.length xs) (h1 : lo ≤ base) (h2 : w.heap.size ≤ hi)
    (hqs : ∀ (j : Nat) (x : List (Int × Int)), j < H.length → H[j]? = some x → ∃ y, xs[j]? = some y ∧ SlR lo hi w y x) : SlHR lo hi w v H := by
  have hlt := fun g hg => hown.lt g hg
  rcases id hown.2 with ⟨rfl, h0⟩ | ⟨g, cap, cur, rfl, _⟩
  · have : H = [] := List.eq_nil_of_length_eq_zero h0
    subst this
    exact ⟨none, 0, rfl, fun k p hp => by simp at hp⟩
  · refine ⟨_, _, rfl, fun k x hx => ?_⟩
    have hkl : k < H.length := by
      rcases Nat.lt_or_ge k H.length with h | h
      · exact h
      · rw [List.getElem?_eq_none h] at hx; cases hx
    obtain ⟨y, e1, e3⟩ := hqs k x hkl hx
    have a1 := hown.cells (g := g) rfl _ _ e1
    have e : (⟨g, 0, none⟩ : Addr).add k = ⟨g, 0 + k, none⟩ := by unfold Addr.add; split <;> simp_all
    rw [e] at a1
    have hg := hlt g rfl
    exact ⟨g, y, rfl, by omega, by omega, a1, e3⟩
theorem Blk.slr2 {w u : World} {L : List (Nat × Array Value × TypeId)} (h : Blk w u L) (i : Nat) {b lo hi : Nat} {T : TypeId} {X0 Y0 X1 Y1 : Int} (h1 : lo ≤ b) (h2 : b < hi) (hi' : L[i]? = some (b, #[.int .i64 X0, .int .i64 Y0, .int .i64 X1, .int .i64 Y1], T)) : SlR lo hi u (.slice (some ⟨b, 0, none⟩) 2 2) [(X0, Y0), (X1, Y1)] := by
  have c := fun o => h.cell i hi' o
  refine ⟨_, 2, rfl, fun k p hp => ⟨b, rfl, h1, h2, ?_⟩⟩
  match k, hp with
  | 0, hp => cases hp; exact ⟨c 0, c 1⟩
  | 1, hp => cases hp; exact ⟨c 2, c 3⟩
end PF
namespace Go.Proofs.YtbfanhdofopnnaaGreat
open Go.RowKit PF JR
/-- the points of a turned shape -/
def vsl (KK S DX DY K : Int) (l : List (Int × Int)) : List (Int × Int) :=
  if K = 1 then [(rx0 KK S DX DY (at' l 0).1 (at' l 0).2 (at' l 1).1 (at' l 1).2, ry0 KK S DX DY (at' l 0).1 (at' l 0).2 (at' l 1).1 (at' l 1).2), (rx1 KK S DX DY (at' l 0).1 (at' l 0).2 (at' l 1).1 (at' l 1).2, ry1 KK S DX DY (at' l 0).1 (at' l 0).2 (at' l 1).1 (at' l 1).2)]
  else l.map (tpt KK S DX DY)
def VsR (K : Int) (l : List (Int × Int)) (H : List (List (Int × Int))) (w : World) (e : Ending) (w' : World) : Prop :=
  ∃ v' vh', e = .returned (.agg #[.int .i64 K, v', vh']) ∧ SlR w.heap.size w'.heap.size w' v' l ∧ SlHR w.heap.size w'.heap.size w' vh' H ∧ Below w.heap.size w w'
theorem infoPs : (Tryz.prog.info? 24).map (fun i => (i.zero, i.size, i.bytes)) = some (some (.slice none 0 0), 1, 24) := by kernel_rfl
theorem okP_bnd {l : List (Int × Int)} (h : l.all okP = true) : ∀ p ∈ l, -65536 ≤ p.1 ∧ p.1 ≤ 65536 ∧ -65536 ≤ p.2 ∧ p.2 ≤ 65536 := by
  intro p hp
  have := List.all_eq_true.1 h p hp
  simp [okP] at this
  omega
set_option maxRecDepth 100000 in
set_option maxHeartbeats 4000000 in
theorem varyShapeR_c (KK S DX DY : Int) (b0 : 0 ≤ KK ∧ KK ≤ 7) (b2 : 1 ≤ S ∧ S ≤ 8) (b3 : -65536 ≤ DX ∧ DX ≤ 65536 ∧ -65536 ≤ DY ∧ DY ≤ 65536) (K : Int) (l : List (Int × Int)) (H : List (List (Int × Int))) (hV : VaryS K l H)
    (v vh : Value) (w : World) (hv : SlP w v l) (hh : SlH w vh H) :
    Calls Tryz.prog 16 #[.agg #[.int .u8 KK, .int .i64 S, .int .i64 DX, .int .i64 DY], .agg #[.int .i64 K, v, vh]] w (VsR K (vsl KK S DX DY K l) (H.map (fun x => x.map (tpt KK S DX DY))) w) := by
  obtain ⟨hok, hH3, hHn, hHs, hK⟩ := hV
  have hl0 : 0 < l.length := by
    rcases hK with ⟨-, h⟩ | ⟨-, a, b, c, d, h, -⟩ | ⟨-, h, -⟩ | ⟨-, h, -⟩
    · omega
    · rw [h]; simp
    · omega
    · omega
  have hl12 : l.length ≤ 12 := by
    rcases hK with ⟨-, h⟩ | ⟨-, a, b, c, d, h, -⟩ | ⟨-, -, h⟩ | ⟨-, -, h⟩
    · omega
    · rw [h]; simp
    · omega
    · omega
  have hbl := okP_bnd hok
  obtain ⟨A, c, rfl, hk⟩ := hh
  obtain ⟨i0, hi, hz0, hz1, hz2⟩ := info_parts infoPs
  have st0 := (((Blk.nil w).push rfl #[.int .u8 KK, .int .i64 S, .int .i64 DX, .int .i64 DY] 23).push (b := w.heap.size + 1) (by simp) #[.int .i64 K, v, .slice A H.length c] 27).push (b := w.heap.size + 1 + 1) (by simp) #[.int .i64 0, .slice none 0 0, .slice none 0 0] 27
  have s0 := hv.below st0.hb
  obtain ⟨Av, cv, hvv⟩ := hv.len
  subst hvv
  have c0 := st0.cell 1 rfl 0
  have c1 := st0.cell 1 rfl 1
  have c2 := st0.cell 1 rfl 2
  have q0 := st0.cell 2 rfl 0
  have q1 := st0.cell 2 rfl 1
  have q2 := st0.cell 2 rfl 2
  have q3 := st0.cell 2 rfl 3
  simp only [List.getElem?_toArray, List.getElem?_cons_zero, List.getElem?_cons_succ] at c0 c1 c2 q0 q1 q2 q3
  have hsz0 := st0.hb.size
  go_enter Tryz.func16, Tryz.ntmps16
  go_wp2
  refine wp_region_K [] [.val (.pointer (some ⟨w.heap.size + 1, 0, none⟩)),
      .val (.int .i64 K),
      .val (.agg #[.int .u8 KK, .int .i64 S, .int .i64 DX, .int .i64 DY]),
      .val (.pointer (some ⟨w.heap.size + 1, 1, none⟩)),
      .val (.slice Av l.length cv),
      .slr (l.map (tpt KK S DX DY)),
      .fnS 14 (fun x => .agg #[.int .i64 K, x, .slice none 0 0]),
      .made 27 3,
      .filledS 5 14 (fun x => #[.int .i64 K, x, .slice none 0 0]) 27]
    [[.ini 3], [.frm 0 9], [.ini 2], [.ini 3], [.frm 3 12], [.frm 2 11, .frm 4 13], [.frm 1 10, .frm 5 14], [], [.frm 7 5, .frm 6 15, .frm 5 14]]
    mixed (by kernel_rfl) (by kernel_rfl) (allPre_of ⟨trivial, trivial, trivial, trivial, trivial, trivial, trivial, trivial, trivial, trivial⟩)
    ⟨OpOk.quiet rfl ?_,
      OpOk.quiet rfl ?_,
      OpOk.quiet rfl ?_,
      OpOk.quiet rfl ?_,
      OpOk.quiet rfl ?_,
      OpOk.call rfl ?_,
      OpOk.fnS rfl ?_,
      OpOk.made (cs := #[.int .i64 0, .slice none 0 0, .slice none 0 0]) rfl rfl ?_,
      OpOk.fillS (k := 7) rfl (by kernel_rfl) (by kernel_rfl) rfl (oldLt_of ⟨(fun _ h => (nomatch h)), (fun _ h => (nomatch h)), (fun _ h => (nomatch h)), (fun _ h => (nomatch h)), (fun _ h => (nomatch h)), (fun _ h => (nomatch h)), (fun _ h => (nomatch h)), (fun _ h => (nomatch h)), (fun _ h => (nomatch h)), trivial⟩) ⟨rowB_none rfl rfl, rowB_none rfl rfl, rowB_none rfl rfl, rowB_none rfl rfl, rowB_none rfl rfl, rowB_none rfl rfl, rowB_fnS, rowB_self (.inr rfl), rowB_self (.inl rfl), trivial⟩ (fun a w hf => hf.1) ?_ (fun _ _ _ h hb => Keep.setRow h (.inl hb)), trivial⟩ ?_
  · intro a u _ hf
    simp [facts, Need.fact, Act.eval] at hf
    go_simp
  · intro a u hG hf
    simp [facts, Need.fact, Ent.val, Act.eval] at hf
    have hc := True.intro
    have y0 := (hG.cell (p := ⟨w.heap.size + 1, 0, none⟩) (st0.lt 1 rfl) (by simp)).trans c0
    have y1 := (hG.cell (p := ⟨w.heap.size + 1, 1, none⟩) (st0.lt 1 rfl) (by simp)).trans c1
    have y2 := (hG.cell (p := ⟨w.heap.size + 1, 2, none⟩) (st0.lt 1 rfl) (by simp)).trans c2
    have z0 := (hG.cell (p := ⟨w.heap.size, 0, none⟩) (st0.lt 2 rfl) (by simp)).trans q0
    have z1 := (hG.cell (p := ⟨w.heap.size, 1, none⟩) (st0.lt 2 rfl) (by simp)).trans q1
    have z2 := (hG.cell (p := ⟨w.heap.size, 2, none⟩) (st0.lt 2 rfl) (by simp)).trans q2
    have z3 := (hG.cell (p := ⟨w.heap.size, 3, none⟩) (st0.lt 2 rfl) (by simp)).trans q3
    go_simp
  · intro a u hG hf
    simp [facts, Need.fact, Act.eval] at hf
    have hc := True.intro
    have y0 := (hG.cell (p := ⟨w.heap.size + 1, 0, none⟩) (st0.lt 1 rfl) (by simp)).trans c0
    have y1 := (hG.cell (p := ⟨w.heap.size + 1, 1, none⟩) (st0.lt 1 rfl) (by simp)).trans c1
    have y2 := (hG.cell (p := ⟨w.heap.size + 1, 2, none⟩) (st0.lt 1 rfl) (by simp)).trans c2
    have z0 := (hG.cell (p := ⟨w.heap.size, 0, none⟩) (st0.lt 2 rfl) (by simp)).trans q0
    have z1 := (hG.cell (p := ⟨w.heap.size, 1, none⟩) (st0.lt 2 rfl) (by simp)).trans q1
    have z2 := (hG.cell (p := ⟨w.heap.size, 2, none⟩) (st0.lt 2 rfl) (by simp)).trans q2
    have z3 := (hG.cell (p := ⟨w.heap.size, 3, none⟩) (st0.lt 2 rfl) (by simp)).trans q3
    go_simp
  · intro a u _ hf
    simp [facts, Need.fact, Act.eval] at hf
    go_simp
  · intro a u hG hf
    simp [facts, Need.fact, Ent.val, Act.eval] at hf
    have hc := True.intro
    have y0 := (hG.cell (p := ⟨w.heap.size + 1, 0, none⟩) (st0.lt 1 rfl) (by simp)).trans c0
    have y1 := (hG.cell (p := ⟨w.heap.size + 1, 1, none⟩) (st0.lt 1 rfl) (by simp)).trans c1
    have y2 := (hG.cell (p := ⟨w.heap.size + 1, 2, none⟩) (st0.lt 1 rfl) (by simp)).trans c2
    have z0 := (hG.cell (p := ⟨w.heap.size, 0, none⟩) (st0.lt 2 rfl) (by simp)).trans q0
    have z1 := (hG.cell (p := ⟨w.heap.size, 1, none⟩) (st0.lt 2 rfl) (by simp)).trans q1
    have z2 := (hG.cell (p := ⟨w.heap.size, 2, none⟩) (st0.lt 2 rfl) (by simp)).trans q2
    have z3 := (hG.cell (p := ⟨w.heap.size, 3, none⟩) (st0.lt 2 rfl) (by simp)).trans q3
    go_simp
  · intro a u hG hf
    simp [facts, Need.fact, Ent.val, Act.eval] at hf
    have s1 := s0.below (Keep.below hG)
    refine ⟨_, _, by go_simp, (varyTurned_n KK S DX DY b0 b2 b3 l hbl (by omega) _ _ s1).mono ?_⟩
    rintro e w' ⟨v', rfl, hr, hb⟩
    exact ⟨_, rfl, hb, hr⟩
  · intro a u _ hf
    obtain ⟨⟨_, _, f1⟩, ⟨_, _, f2⟩, -⟩ := hf
    obtain ⟨A9, c9, f3⟩ := SlR.len f2
    have f1' : a.eval (.tmp 10) = .int .i64 K := f1
    simp [Act.eval] at f1' f3
    go_simp
  · intro a u _ _
    go_simp
  · intro a u b old hG hf hp hb hs
    obtain ⟨-, ⟨_, _, f2⟩, ⟨_, _, f3⟩, -⟩ := hf
    obtain ⟨A9, c9, f4⟩ := SlR.len f3
    exact ⟨run_store_row _ _ _ rfl b _ hp f2 _ old hb (by kernel_rfl) (by simpa using hs) (by rw [f4]; simp [Value.oneCell']), rfl⟩
  intro u lw hw wc hKp hE hI hD
  simp [allE, Ent.filledS, Ent.fnS, Ent.made, Ent.slr, Ent.val] at hE
  obtain ⟨u0, u1, u2, u3, u4, u5, u6, ⟨b7, u7, l7, h7, -⟩, u8⟩ := hE
  simp only [allPut, Act.put, u0, u1, u2, u3, u4, u7]
  clear u0 u1 u2 u3 u4
  simp [allPut, Act.put, Act.eval] at u6 u8
  replace u5 : SlR (lw 5) (hw 5) wc (u 5) (l.map (tpt KK S DX DY)) := u5
  obtain ⟨b8, e8, g8⟩ := u8
  rw [u7] at e8
  obtain rfl : b7 = b8 := by simpa using e8
  clear e8 u7
  have i5 := hI 5 (by show 5 < 9; omega)
  have i7 := hI 7 (by show 7 < 9; omega)
  have d57 := hD 5 7 (by show 5 < 9; omega) (by show 7 < 9; omega) (by omega)
  obtain ⟨b5, j1, j2, j3, r5⟩ := u5.one (by simp; exact hl0)
  have st1 := (st0.keep hKp (fun i x _ => by simp) (fun x hx => by simp at hx)).add g8
  have hwc := st0.hb.size
  have hb7 : w.heap.size + 3 ≤ b7 := by have := i7.2; simp at this; omega
  have hb5 : w.heap.size + 3 ≤ b5 := by have := i5.2; simp at this; omega
  have hb57 : b5 ≠ b7 := by omega
  have hb7w : b7 < wc.heap.size := st1.lt 0 rfl
  obtain ⟨A5, c5, hy5⟩ := r5.len
  rw [hy5] at u6 r5 g8 st1
  rw [u6, hy5]
  clear u5 u6 hy5 hKp hI hD g8 i5 i7 d57 j1 j2 c0 c1 c2 q0 q1 q2 q3 s0 st0 l7 h7
  simp only [List.length_map] at r5 st1
  have m2 := st1.cell 2 rfl 2
  simp only [List.getElem?_toArray, List.getElem?_cons_zero, List.getElem?_cons_succ] at m2
  simp only [List.length_map]
  try simp only [List.setIfInBounds_toArray, List.set_cons_zero, List.set_cons_succ]
  go_wp2
  obtain ⟨Bs, hBs⟩ : ∃ x, wc.heap.size = x := ⟨_, rfl⟩
  go_loopw [19] (fun i wr => ∃ k : Nat, k ≤ H.length ∧ i = .int .i64 k ∧ ∃ (vo : Value) (xs : List Value), wr.ownsRow Bs 24 1 vo k xs ∧
    (∀ (j : Nat) (x : List (Int × Int)), j < k → H[j]? = some x → ∃ y b, xs[j]? = some y ∧ Bs ≤ b ∧ b < wr.heap.size ∧ SlR b (b + 1) wr y (x.map (tpt KK S DX DY))) ∧
    SlR b5 (b5 + 1) wr (.slice A5 l.length c5) (l.map (tpt KK S DX DY)) ∧ Bs ≤ wr.heap.size ∧ Blk w wr ((b7, #[.int .i64 K, .slice A5 l.length c5, vo], 27) :: [(w.heap.size + 1 + 1, #[.int .i64 0, .slice none 0 0, .slice none 0 0], 27), (w.heap.size + 1, #[.int .i64 K, .slice Av l.length cv, .slice A H.length c], 27), (w.heap.size, #[.int .u8 KK, .int .i64 S, .int .i64 DX, .int .i64 DY], 23)])) (fun i _ => H.length - (intOf i).toNat)
  case atStart => exact ⟨0, Nat.zero_le _, rfl, .slice none 0 0, [], World.ownsRow_nil _ _ _ _, fun j x hj => absurd hj (Nat.not_lt_zero _), r5, Nat.le_of_eq hBs.symm, st1⟩
  case round =>
    clear r5 st1 m2
    obtain ⟨k, hkl, rfl, vo, xs, hown, hqs, hr5, hBr, hB⟩ := hrel
    rcases Nat.lt_or_ge k H.length with hlt | hge
    · obtain ⟨x, hx⟩ : ∃ x, H[k]? = some x := ⟨H[k], by simp [hlt]⟩
      obtain ⟨bb, off, y, rfl, h1, h2⟩ := hk k x hx
      obtain ⟨Ay, cy, hyy⟩ := h2.len
      subst hyy
      have hxs := hHs x (List.mem_of_getElem? hx)
      have hbx := okP_bnd hxs.2.2
      have hxl : x.length ≤ 8 := hxs.2.1
      have hxl0 : 0 < x.length := by omega
      have hlt' : (k : Int) < (H.length : Int) := by omega
      have gy := (hB.hb.cell (World.block_lt_of_cell? w _ h1)).trans h1
      have hfg := fun g (hg : vo.ownBlock = some g) => hown.lt g hg
      have hrow := hB.known 0 _ rfl
      have hb7r : b7 < wr.heap.size := hB.lt 0 rfl
      have hwr := hB.hb.size
      have hnb : b7 ∉ vo.ownBlock.toList := by intro hm; simp at hm; have := (hfg _ hm).1; omega
      have hnx : w.heap.size ∉ b7 :: vo.ownBlock.toList := by intro hm; simp at hm; rcases hm with hm | hm; omega; have := (hfg _ hm).1; omega
      have hX : ∀ z ∈ b7 :: vo.ownBlock.toList, w.heap.size ≤ z := by intro z hm; simp at hm; rcases hm with hm | hm; omega; have := (hfg _ hm).1; omega
      have q0 := hB.cell 3 rfl 0
      have q1 := hB.cell 3 rfl 1
      have q2 := hB.cell 3 rfl 2
      have q3 := hB.cell 3 rfl 3
      simp only [List.getElem?_toArray, List.getElem?_cons_zero, List.getElem?_cons_succ] at q0 q1 q2 q3
      have hk3 : H.length ≤ 3 := hH3
      have hHp : ∀ x ∈ H, 3 ≤ x.length := fun x hx => (hHs x hx).1
      clear h1 hk hHs hxs
      go_wp2
      refine wp_region_K (b7 :: vo.ownBlock.toList) [.val (.pointer (some ⟨b7, 2, none⟩)),
          .val vo,
          .val (.agg #[.int .u8 KK, .int .i64 S, .int .i64 DX, .int .i64 DY]),
          .val (.slice Ay x.length cy),
          .slr (x.map (tpt KK S DX DY)),
          .slcS 24 27,
          .appS vo k xs Bs 24 27,
          .val (.pointer (some ⟨b7, 2, none⟩)),
          .turnS b7 #[.int .i64 K, .slice A5 l.length c5, vo] 2 29 27]
        [[.ini 5], [.frm 0 23, .til 8], [.ini 2], [.ini 7], [.frm 2 25, .frm 3 26], [.frm 4 27], [.frm 1 24, .frm 5 28, .til 6, .frm 4 27], [.ini 5], [.frm 7 30, .frm 6 29, .til 8]]
        mixed (by kernel_rfl) (by kernel_rfl) (allPre_of ⟨trivial, trivial, trivial, trivial, trivial, trivial, hown, trivial, hrow, trivial⟩)
        ⟨OpOk.quiet rfl ?_,
          OpOk.quiet rfl ?_,
          OpOk.quiet rfl ?_,
          OpOk.quiet rfl ?_,
          OpOk.call rfl ?_,
          OpOk.slcS rfl ?_,
          OpOk.appS (inf := i0) rfl rfl Tryz.underlying25 hi hz0 hz1 hz2 rfl (by unfold maxLen; omega) (by omega) hBr (fun _ hG => hG.size) (fun b hb => (hfg b hb).2) (fun b hb => ⟨row_still rfl, row_still rfl, row_still rfl, row_still rfl, row_none rfl (fun h => (nomatch h)), row_slcS, row_self rfl, row_still rfl, row_turnS (by have := (hfg b hb).1; omega), trivial⟩) (fun b hb => oldFree_of ⟨.inr (fun h => (nomatch h)), .inr (fun h => (nomatch h)), .inr (fun h => (nomatch h)), .inr (fun h => (nomatch h)), .inr (fun h => (nomatch h)), .inr (fun h => (nomatch h)), .inl rfl, .inr (fun h => (nomatch h)), .inr (by have := (hfg b hb).1; simp [Ent.turnS]; omega), trivial⟩) ?_ (fun _ b _ hb h => Keep.setRow h (.inr (by simp [hb]))),
          OpOk.quiet rfl ?_,
          OpOk.turnS rfl rfl (lt_of_some hrow) ⟨row_still rfl, row_still rfl, row_still rfl, row_still rfl, row_none rfl (fun h => (nomatch h)), row_slcS, row_appS hnb, row_still rfl, row_self rfl, trivial⟩ (oldFree_of ⟨.inr (fun h => (nomatch h)), .inr (fun h => (nomatch h)), .inr (fun h => (nomatch h)), .inr (fun h => (nomatch h)), .inr (fun h => (nomatch h)), .inr (fun h => (nomatch h)), .inr hnb, .inr (fun h => (nomatch h)), .inl rfl, trivial⟩) (by kernel_rfl) (by simp) ?_ (fun _ _ h => Keep.setRow h (.inr (by simp))), trivial⟩ ?_
      · intro a u _ hf
        simp [facts, Need.fact, Act.eval] at hf
        go_simp
      · intro a u _ hf
        obtain ⟨⟨_, _, f1⟩, f2, -⟩ := hf
        have f1' : a.eval (.tmp 23) = .pointer (some ⟨b7, 2, none⟩) := f1
        have c11 := cellAt (show u.heap[b7]? = some (.cells #[.int .i64 K, .slice A5 l.length c5, vo] 27 (0, 0)) from f2) 2
        simp only [List.getElem?_toArray, List.getElem?_cons_zero, List.getElem?_cons_succ] at c11
        clear f1 f2
        simp [Act.eval] at f1'
        go_simp
      · intro a u hG hf
        simp [facts, Need.fact, Act.eval] at hf
        have hc := True.intro
        have z0 := (hG.cell (p := ⟨w.heap.size, 0, none⟩) (hB.lt 3 rfl) hnx).trans q0
        have z1 := (hG.cell (p := ⟨w.heap.size, 1, none⟩) (hB.lt 3 rfl) hnx).trans q1
        have z2 := (hG.cell (p := ⟨w.heap.size, 2, none⟩) (hB.lt 3 rfl) hnx).trans q2
        have z3 := (hG.cell (p := ⟨w.heap.size, 3, none⟩) (hB.lt 3 rfl) hnx).trans q3
        go_simp
      · intro a u _ hf
        simp [facts, Need.fact, Act.eval] at hf
        go_simp
      · intro a u hG hf
        simp [facts, Need.fact, Ent.val, Act.eval] at hf
        have s1 := h2.below (Keep.belowX hG hB.hb hB.hb.size hX)
        refine ⟨_, _, by go_simp, (varyTurned_n KK S DX DY b0 b2 b3 x hbx (by omega) _ _ s1).mono ?_⟩
        rintro e w' ⟨v', rfl, hr, hb⟩
        exact ⟨_, rfl, hb, hr⟩
      · intro a u _ hf
        obtain ⟨⟨_, _, f2⟩, -⟩ := hf
        obtain ⟨A9, c9, f3⟩ := SlR.len f2
        simp [Act.eval] at f3
        go_simp
      · intro a u _ hf
        obtain ⟨⟨_, _, f1⟩, ⟨_, _, b, f2, _, _, f3⟩, f4, ⟨_, _, f5⟩, -⟩ := hf
        obtain ⟨A9, c9, f6⟩ := SlR.len f5
        exact ⟨f1, f4, by rw [f6]; rfl, b, f2, f3⟩
      · intro a u _ hf
        simp [facts, Need.fact, Act.eval] at hf
        go_simp
      · intro a u _ hf
        obtain ⟨⟨_, _, f1⟩, ⟨_, _, f2, f5⟩, f4, -⟩ := hf
        exact ⟨f1, own_one f2, f4⟩
      intro u lw hw wc2 hKp hE hI hD
      simp [allE, Ent.appS, Ent.slcS, Ent.slr, Ent.turnS, Ent.val] at hE
      obtain ⟨u0, u1, u2, u3, u4, -, u6, u7, e8⟩ := hE
      simp only [allPut, Act.put, u0, u2, u3, u7]
      clear u0 u2 u3 u7
      simp [allPut, Act.put, Act.eval] at e8
      replace u4 : SlR (lw 4) (hw 4) wc2 (u 4) (x.map (tpt KK S DX DY)) := u4
      obtain ⟨o6, -⟩ := u6
      simp [allPut, Act.put, Act.eval] at o6
      have i4 := hI 4 (by show 4 < 9; omega)
      have hBe := Keep.belowX hKp hB.hb hB.hb.size hX
      have hxsl : xs.length = k := by have := hown.1; omega
      have h00 : 0 < k → ∃ A m c, xs[0]? = some (.slice A m c) := by
        intro hk0
        obtain ⟨y0, b0, e1, e2, e3, e4⟩ := hqs 0 (H[0]'(by omega)) hk0 (by simp)
        obtain ⟨A', c', e4⟩ := e4.len
        exact ⟨A', _, c', by rw [e1, e4]⟩
      have hqs2 : ∀ (j : Nat) (x2 : List (Int × Int)), j < k + 1 → H[j]? = some x2 → ∃ y b, (xs ++ [u 4])[j]? = some y ∧ Bs ≤ b ∧ b < wc2.heap.size ∧ SlR b (b + 1) wc2 y (x2.map (tpt KK S DX DY)) := by
        intro j x2 hj hx2
        by_cases hjk : j = k
        · subst hjk
          rw [hx] at hx2
          cases hx2
          obtain ⟨b1, j1, j2, j3, r1⟩ := u4.one (by simp; exact hxl0)
          exact ⟨u 4, b1, by rw [List.getElem?_append_right (by omega)]; simp [hxsl], by have := i4.2; omega, j3, r1⟩
        · obtain ⟨y', b', e1, e2, e3, e4⟩ := hqs j x2 (by omega) hx2
          have hx20 : 0 < x2.length := by
            have := hHp x2 (List.mem_of_getElem? hx2); omega
          have hne := own_neR hown (h00 (by omega)) e4 (by simp; exact hx20)
          refine ⟨y', b', by rw [List.getElem?_append_left (by omega)]; exact e1, e2, Nat.lt_of_lt_of_le e3 hKp.size, e4.keep' fun b h1 h2 h3 => ?_⟩
          have hbb : b = b' := by omega
          subst hbb
          exact hKp.block b h3 (by
            intro hm
            simp at hm
            rcases hm with hm | hm
            · omega
            · exact hne hm.symm)
      have hr52 := hr5.keep' (w' := wc2) fun b h1 h2 h3 => hKp.block b h3 (by
        intro hm
        simp at hm
        rcases hm with hm | hm
        · omega
        · have := (hfg _ hm).1; omega)
      have hB2 := (hB.tail.keep hKp (fun i z hz => by
        intro hm
        simp at hm
        rcases i with _ | _ | _ | i <;> simp at hz <;> subst hz <;> simp at hm <;> (rcases hm with hm | hm; omega; have := (hfg _ hm).1; omega)) (fun z hz => hX z hz)).add e8
      have hBs2 : Bs ≤ wc2.heap.size := Nat.le_trans hBr hKp.size
      try simp only [List.setIfInBounds_toArray, List.set_cons_zero, List.set_cons_succ]
      simp only [u1]
      generalize u 6 = y6 at *
      generalize u 5 = y5 at *
      generalize u 4 = y4 at *
      clear hKp hI hD e8 u1 u4 i4 hBe hqs hr5 hB hown hrow q0 q1 q2 q3 gy h2 h00 hnb hnx hX hfg hx hbx
      go_wp2
      go_roundw
      case rel => exact ⟨k + 1, by omega, by go_num, _, _, o6, hqs2, hr52, hBs2, hB2⟩
      case measure => simp [intOf]; omega
    · have hkk : k = H.length := by omega
      subst hkk
      have hol := SlH.own (H := H.map (fun x => x.map (tpt KK S DX DY))) (by simpa using hown) (fun j x hj hx => by
        simp at hx hj
        obtain ⟨x0, hx0, rfl⟩ := hx
        obtain ⟨y, b, e1, -, -, e2⟩ := hqs j x0 hj hx0
        exact ⟨y, e1, e2.p⟩)
      have m0 := hB.cell 2 rfl 0
      have m1 := hB.cell 2 rfl 1
      have n0 := hB.cell 0 rfl 0
      have n1 := hB.cell 0 rfl 1
      have n2 := hB.cell 0 rfl 2
      have fn := fun o => hB.frozen 0 rfl o
      have ff := fun o => hB.frozen 1 rfl o
      simp only [List.getElem?_toArray, List.getElem?_cons_zero, List.getElem?_cons_succ] at m0 m1 n0 n1 n2
      have p0 := hB.cell 1 rfl 0
      have p1 := hB.cell 1 rfl 1
      have p2 := hB.cell 1 rfl 2
      simp only [List.getElem?_toArray, List.getElem?_cons_zero, List.getElem?_cons_succ] at p0 p1 p2
      obtain ⟨Ao, co, hvo⟩ : ∃ A c, vo = .slice A H.length c := by
        obtain ⟨A, c, h1, -⟩ := id hol
        exact ⟨A, c, by simpa using h1⟩
      subst hvo
      have hne1 : w.heap.size + 1 + 1 ≠ b7 := by omega
      have hap : ∀ q r : Array Value, apart (w.heap.size + 1 + 1) 1 0 ((b7, q, 27) :: (w.heap.size + 1 + 1, r, 27) :: [(w.heap.size + 1, #[.int .i64 K, .slice Av l.length cv, .slice A H.length c], 27), (w.heap.size, #[.int .u8 KK, .int .i64 S, .int .i64 DX, .int .i64 DY], 23)]) := fun q r => ⟨.inr (by show _ ≠ _; omega), .inl rfl, .inr (by show _ ≠ _; omega), .inr (by show _ ≠ _; omega), trivial⟩
      clear hk hHs hol
      by_cases hK1 : K = 1
      case neg =>
        have hK1b : (K == 1) = false := beq_eq_false_iff_ne.2 hK1
        have hls : vsl KK S DX DY K l = l.map (tpt KK S DX DY) := by unfold vsl; rw [if_neg hK1]
        have st2 := ((hB.put 1 (o := 0) (v := .int .i64 K) rfl (hap _ _) (by omega)).put 1 (o := 1) (v := .slice A5 l.length c5) rfl (hap _ _) (by omega)).put 1 (o := 2) (v := .slice Ao H.length co) rfl (hap _ _) (by omega)
        have hgr : wr.grownBy (((wr.setCell ⟨w.heap.size + 1 + 1, 0, none⟩ (.int .i64 K)).setCell ⟨w.heap.size + 1 + 1, 1, none⟩ (.slice A5 l.length c5)).setCell ⟨w.heap.size + 1 + 1, 2, none⟩ (.slice Ao H.length co)) (some (w.heap.size + 1 + 1)) :=
          ⟨rfl, rfl, rfl, by simp, fun k hk hne => (Below.heap_setCell _ _ _ _ (fun h => hne (by rw [h]))).trans ((Below.heap_setCell _ _ _ _ (fun h => hne (by rw [h]))).trans (Below.heap_setCell _ _ _ _ (fun h => hne (by rw [h]))))⟩
        have hown2 := hown.kept hgr (.inr (fun h => by have := (hown.lt _ h).1; omega))
        have sp2 := (hr5.keep' (w' := (((wr.setCell ⟨w.heap.size + 1 + 1, 0, none⟩ (.int .i64 K)).setCell ⟨w.heap.size + 1 + 1, 1, none⟩ (.slice A5 l.length c5)).setCell ⟨w.heap.size + 1 + 1, 2, none⟩ (.slice Ao H.length co))) (fun b h1 h2 h3 => hgr.block b h3 (by simp; omega))).wide (l' := w.heap.size) (h' := ((((wr.setCell ⟨w.heap.size + 1 + 1, 0, none⟩ (.int .i64 K)).setCell ⟨w.heap.size + 1 + 1, 1, none⟩ (.slice A5 l.length c5)).setCell ⟨w.heap.size + 1 + 1, 2, none⟩ (.slice Ao H.length co))).heap.size) (by omega) (by simp; omega)
        have hol2 := SlHR.own (lo := w.heap.size) (hi := ((((wr.setCell ⟨w.heap.size + 1 + 1, 0, none⟩ (.int .i64 K)).setCell ⟨w.heap.size + 1 + 1, 1, none⟩ (.slice A5 l.length c5)).setCell ⟨w.heap.size + 1 + 1, 2, none⟩ (.slice Ao H.length co))).heap.size) (H := H.map (fun x => x.map (tpt KK S DX DY))) (by simpa using hown2) (by omega) (Nat.le_refl _) (fun j x hj hx => by
          simp at hx hj
          obtain ⟨x0, hx0, rfl⟩ := hx
          obtain ⟨y, b, e1, e3, e4, e2⟩ := hqs j x0 hj hx0
          exact ⟨y, e1, (e2.keep' (fun b h1 h2 h3 => hgr.block b h3 (by simp; omega))).wide (by omega) (by simp; omega)⟩)
        clear hgr hown2 hqs hr5 hown hB hap
        go_wp2
        have t0 := st2.cell 1 rfl 0
        have t1 := st2.cell 1 rfl 1
        have t2 := st2.cell 1 rfl 2
        simp at t0 t1 t2
        exact bodyPost_ret (v := .agg #[.int .i64 K, .slice A5 l.length c5, .slice Ao H.length co]) (by simp [results, Tryz.results16, go_sem, t0, t1, t2]) rfl ⟨_, _, rfl, by rw [hls]; simpa using sp2, by simpa using hol2, by simpa using st2.hb⟩
      case pos =>
        subst hK1
        obtain rfl : H = [] := hHn (by decide)
        obtain ⟨X0, Y0, X1, Y1, rfl, -, -⟩ : ∃ X0 Y0 X1 Y1, l = [(X0, Y0), (X1, Y1)] ∧ X0 < X1 ∧ Y0 < Y1 := by
          rcases hK with ⟨h, -⟩ | ⟨-, h⟩ | ⟨h, -⟩ | ⟨h, -⟩
          · cases h
          · exact h
          · cases h
          · cases h
        have hb0 := hbl (X0, Y0) (by simp)
        have hb1 := hbl (X1, Y1) (by simp)
        simp only at hb0 hb1
        obtain ⟨Av', cv', hvv, hkv⟩ := hv
        obtain ⟨bv, off, rfl, v0, v1⟩ := hkv 0 (X0, Y0) rfl
        obtain ⟨bv', off', hA', v2, v3⟩ := hkv 1 (X1, Y1) rfl
        cases hA'
        obtain ⟨rfl, rfl⟩ : Av = some ⟨bv, off, none⟩ ∧ cv = cv' := by simpa using hvv
        have hbv := World.block_lt_of_cell? w _ v0
        simp only at hbv
        have v0 := (hB.hb.cell (World.block_lt_of_cell? w _ v0)).trans v0
        have v1 := (hB.hb.cell (World.block_lt_of_cell? w _ v1)).trans v1
        have v2 := (hB.hb.cell (World.block_lt_of_cell? w _ v2)).trans v2
        have v3 := (hB.hb.cell (World.block_lt_of_cell? w _ v3)).trans v3
        simp only [Nat.zero_mul, Nat.one_mul, Nat.add_zero, List.length_cons, List.length_nil, Nat.zero_add, Nat.reduceAdd] at v0 v1 v2 v3 hB m1
        have hwr := hB.hb.size
        have hbvr : bv < wr.heap.size := by omega
        have q0 := hB.cell 3 rfl 0
        have q1 := hB.cell 3 rfl 1
        have q2 := hB.cell 3 rfl 2
        have q3 := hB.cell 3 rfl 3
        simp only [List.getElem?_toArray, List.getElem?_cons_zero, List.getElem?_cons_succ] at q0 q1 q2 q3
        have hls : vsl KK S DX DY 1 [(X0, Y0), (X1, Y1)] = [(rx0 KK S DX DY X0 Y0 X1 Y1, ry0 KK S DX DY X0 Y0 X1 Y1), (rx1 KK S DX DY X0 Y0 X1 Y1, ry1 KK S DX DY X0 Y0 X1 Y1)] := rfl
        have vrc := fun u => varyRect_c KK S DX DY X0 Y0 X1 Y1 b0 b2 b3 hb0 hb1 u
        generalize rx0 KK S DX DY X0 Y0 X1 Y1 = e0 at *
        generalize ry0 KK S DX DY X0 Y0 X1 Y1 = e1 at *
        generalize rx1 KK S DX DY X0 Y0 X1 Y1 = e2 at *
        generalize ry1 KK S DX DY X0 Y0 X1 Y1 = e3 at *
        clear hqs hr5 hown hK hkv hvv n0 n1 n2 p0 p1 p2 fn ff hbl hok hHn hap
        simp only [List.length_cons, List.length_nil, Nat.zero_add, Nat.reduceAdd]
        go_wp2
        refine wp_region_K [] [.val (.agg #[.int .u8 KK, .int .i64 S, .int .i64 DX, .int .i64 DY]),
            .val (.pointer (some ⟨w.heap.size + 1, 1, none⟩)),
            .val (.slice (some ⟨bv, off, none⟩) 2 cv),
            .val (.pointer (some ⟨bv, off, none⟩)),
            .val (.agg #[.int .i64 X0, .int .i64 Y0]),
            .val (.pointer (some ⟨w.heap.size + 1, 1, none⟩)),
            .val (.slice (some ⟨bv, off, none⟩) 2 cv),
            .val (.pointer (some ⟨bv, off + 2, none⟩)),
            .val (.agg #[.int .i64 X1, .int .i64 Y1]),
            .val (.agg #[.int .i64 X0, .int .i64 Y0, .int .i64 X1, .int .i64 Y1]),
            .val (.agg #[.int .i64 e0, .int .i64 e1, .int .i64 e2, .int .i64 e3]),
            .made 49 4,
            .filled 8 #[.int .i64 e0, .int .i64 e1, .int .i64 e2, .int .i64 e3] 49]
          [[.ini 2], [.ini 3], [.frm 1 36], [.frm 2 37], [.frm 3 38], [.ini 3], [.frm 5 40], [.frm 6 41], [.frm 7 42], [.frm 4 39, .frm 8 43], [.frm 0 35, .frm 9 44], [], [.frm 11 8, .frm 10 45]]
          mixed (by kernel_rfl) (by kernel_rfl) (allPre_of ⟨trivial, trivial, trivial, trivial, trivial, trivial, trivial, trivial, trivial, trivial, trivial, trivial, trivial, trivial⟩)
          ⟨OpOk.quiet rfl ?_,
            OpOk.quiet rfl ?_,
            OpOk.quiet rfl ?_,
            OpOk.quiet rfl ?_,
            OpOk.quiet rfl ?_,
            OpOk.quiet rfl ?_,
            OpOk.quiet rfl ?_,
            OpOk.quiet rfl ?_,
            OpOk.quiet rfl ?_,
            OpOk.quiet rfl ?_,
            OpOk.call rfl ?_,
            OpOk.made (cs := #[.int .i64 0, .int .i64 0, .int .i64 0, .int .i64 0]) rfl rfl ?_,
            OpOk.fillRow (k := 11) rfl rfl (by kernel_rfl) rfl (oldLt_of ⟨(fun _ h => (nomatch h)), (fun _ h => (nomatch h)), (fun _ h => (nomatch h)), (fun _ h => (nomatch h)), (fun _ h => (nomatch h)), (fun _ h => (nomatch h)), (fun _ h => (nomatch h)), (fun _ h => (nomatch h)), (fun _ h => (nomatch h)), (fun _ h => (nomatch h)), (fun _ h => (nomatch h)), (fun _ h => (nomatch h)), (fun _ h => (nomatch h)), trivial⟩) (by kernel_rfl) (by simp [Value.oneCell']) (fun a w hf => ⟨hf.1, hf.2.1.elim fun _ h => h.elim fun _ h => h⟩) (fun _ _ _ h hb => Keep.setRow h (.inl hb)), trivial⟩ ?_
        · intro a u hG hf
          simp [facts, Need.fact, Act.eval] at hf
          have hc := True.intro
          have z0 := (hG.cell (p := ⟨w.heap.size, 0, none⟩) (hB.lt 3 rfl) (by simp)).trans q0
          have z1 := (hG.cell (p := ⟨w.heap.size, 1, none⟩) (hB.lt 3 rfl) (by simp)).trans q1
          have z2 := (hG.cell (p := ⟨w.heap.size, 2, none⟩) (hB.lt 3 rfl) (by simp)).trans q2
          have z3 := (hG.cell (p := ⟨w.heap.size, 3, none⟩) (hB.lt 3 rfl) (by simp)).trans q3
          have z4 := (hG.cell (p := ⟨w.heap.size + 1, 1, none⟩) (hB.lt 2 rfl) (by simp)).trans m1
          have z5 := (hG.cell (p := ⟨bv, off, none⟩) hbvr (by simp)).trans v0
          have z6 := (hG.cell (p := ⟨bv, off + 1, none⟩) hbvr (by simp)).trans v1
          have z7 := (hG.cell (p := ⟨bv, off + 2, none⟩) hbvr (by simp)).trans v2
          have z8 := (hG.cell (p := ⟨bv, off + 2 + 1, none⟩) hbvr (by simp)).trans v3
          go_simp
        · intro a u _ hf
          simp [facts, Need.fact, Act.eval] at hf
          go_simp
        · intro a u hG hf
          simp [facts, Need.fact, Ent.val, Act.eval] at hf
          have hc := True.intro
          have z0 := (hG.cell (p := ⟨w.heap.size, 0, none⟩) (hB.lt 3 rfl) (by simp)).trans q0
          have z1 := (hG.cell (p := ⟨w.heap.size, 1, none⟩) (hB.lt 3 rfl) (by simp)).trans q1
          have z2 := (hG.cell (p := ⟨w.heap.size, 2, none⟩) (hB.lt 3 rfl) (by simp)).trans q2
          have z3 := (hG.cell (p := ⟨w.heap.size, 3, none⟩) (hB.lt 3 rfl) (by simp)).trans q3
          have z4 := (hG.cell (p := ⟨w.heap.size + 1, 1, none⟩) (hB.lt 2 rfl) (by simp)).trans m1
          have z5 := (hG.cell (p := ⟨bv, off, none⟩) hbvr (by simp)).trans v0
          have z6 := (hG.cell (p := ⟨bv, off + 1, none⟩) hbvr (by simp)).trans v1
          have z7 := (hG.cell (p := ⟨bv, off + 2, none⟩) hbvr (by simp)).trans v2
          have z8 := (hG.cell (p := ⟨bv, off + 2 + 1, none⟩) hbvr (by simp)).trans v3
          go_simp
        · intro a u _ hf
          simp [facts, Need.fact, Ent.val, Act.eval] at hf
          go_simp
        · intro a u hG hf
          simp [facts, Need.fact, Ent.val, Act.eval] at hf
          have hc := True.intro
          have z0 := (hG.cell (p := ⟨w.heap.size, 0, none⟩) (hB.lt 3 rfl) (by simp)).trans q0
          have z1 := (hG.cell (p := ⟨w.heap.size, 1, none⟩) (hB.lt 3 rfl) (by simp)).trans q1
          have z2 := (hG.cell (p := ⟨w.heap.size, 2, none⟩) (hB.lt 3 rfl) (by simp)).trans q2
          have z3 := (hG.cell (p := ⟨w.heap.size, 3, none⟩) (hB.lt 3 rfl) (by simp)).trans q3
          have z4 := (hG.cell (p := ⟨w.heap.size + 1, 1, none⟩) (hB.lt 2 rfl) (by simp)).trans m1
          have z5 := (hG.cell (p := ⟨bv, off, none⟩) hbvr (by simp)).trans v0
          have z6 := (hG.cell (p := ⟨bv, off + 1, none⟩) hbvr (by simp)).trans v1
          have z7 := (hG.cell (p := ⟨bv, off + 2, none⟩) hbvr (by simp)).trans v2
          have z8 := (hG.cell (p := ⟨bv, off + 2 + 1, none⟩) hbvr (by simp)).trans v3
          go_simp
        · intro a u _ hf
          simp [facts, Need.fact, Act.eval] at hf
          go_simp
        · intro a u hG hf
          simp [facts, Need.fact, Ent.val, Act.eval] at hf
          have hc := True.intro
          have z0 := (hG.cell (p := ⟨w.heap.size, 0, none⟩) (hB.lt 3 rfl) (by simp)).trans q0
          have z1 := (hG.cell (p := ⟨w.heap.size, 1, none⟩) (hB.lt 3 rfl) (by simp)).trans q1
          have z2 := (hG.cell (p := ⟨w.heap.size, 2, none⟩) (hB.lt 3 rfl) (by simp)).trans q2
          have z3 := (hG.cell (p := ⟨w.heap.size, 3, none⟩) (hB.lt 3 rfl) (by simp)).trans q3
          have z4 := (hG.cell (p := ⟨w.heap.size + 1, 1, none⟩) (hB.lt 2 rfl) (by simp)).trans m1
          have z5 := (hG.cell (p := ⟨bv, off, none⟩) hbvr (by simp)).trans v0
          have z6 := (hG.cell (p := ⟨bv, off + 1, none⟩) hbvr (by simp)).trans v1
          have z7 := (hG.cell (p := ⟨bv, off + 2, none⟩) hbvr (by simp)).trans v2
          have z8 := (hG.cell (p := ⟨bv, off + 2 + 1, none⟩) hbvr (by simp)).trans v3
          go_simp
        · intro a u _ hf
          simp [facts, Need.fact, Ent.val, Act.eval] at hf
          go_simp
        · intro a u hG hf
          simp [facts, Need.fact, Ent.val, Act.eval] at hf
          have hc := True.intro
          have z0 := (hG.cell (p := ⟨w.heap.size, 0, none⟩) (hB.lt 3 rfl) (by simp)).trans q0
          have z1 := (hG.cell (p := ⟨w.heap.size, 1, none⟩) (hB.lt 3 rfl) (by simp)).trans q1
          have z2 := (hG.cell (p := ⟨w.heap.size, 2, none⟩) (hB.lt 3 rfl) (by simp)).trans q2
          have z3 := (hG.cell (p := ⟨w.heap.size, 3, none⟩) (hB.lt 3 rfl) (by simp)).trans q3
          have z4 := (hG.cell (p := ⟨w.heap.size + 1, 1, none⟩) (hB.lt 2 rfl) (by simp)).trans m1
          have z5 := (hG.cell (p := ⟨bv, off, none⟩) hbvr (by simp)).trans v0
          have z6 := (hG.cell (p := ⟨bv, off + 1, none⟩) hbvr (by simp)).trans v1
          have z7 := (hG.cell (p := ⟨bv, off + 2, none⟩) hbvr (by simp)).trans v2
          have z8 := (hG.cell (p := ⟨bv, off + 2 + 1, none⟩) hbvr (by simp)).trans v3
          go_simp
        · intro a u _ hf
          simp [facts, Need.fact, Ent.val, Act.eval] at hf
          go_simp
        · intro a u _ hf
          simp [facts, Need.fact, Ent.val, Act.eval] at hf
          refine ⟨_, _, by go_simp, (vrc _).mono ?_⟩
          rintro e w' ⟨rfl, hb⟩
          exact ⟨_, rfl, hb, rfl⟩
        · intro a u _ _
          go_simp
        intro u lw hw wc3 hKp hE hI hD
        simp [allE, allPut, Act.put, Act.eval, Ent.filledP, Ent.made, Ent.val] at hE
        obtain ⟨u0, u1, u2, u3, u4, u5, u6, u7, u8, u9, u10, ⟨b11, u11, l11, h11, -⟩, ⟨c12, v12, g12⟩⟩ := hE
        obtain rfl : b11 = c12 := by rw [u11] at v12; simpa using v12
        simp only [allPut, Act.put, u0, u1, u2, u3, u4, u5, u6, u7, u8, u9, u10, u11]
        clear u0 u1 u2 u3 u4 u5 u6 u7 u8 u9 u10 u11 v12
        have i11 := hI 11 (by show 11 < 13; omega)
        have hB2 := (hB.keep hKp (fun i x _ => by simp) (fun x hx => by simp at hx)).add g12
        have hb11 : wr.heap.size ≤ b11 := by omega
        have hb7r : b7 < wr.heap.size := hB.lt 0 rfl
        clear hKp hI hD g12 i11 l11 h11 v0 v1 v2 v3 q0 q1 q2 q3 m0 m1 vrc
        try simp only [List.setIfInBounds_toArray, List.set_cons_zero, List.set_cons_succ]
        have n0 := hB2.cell 1 rfl 0
        have n1 := hB2.cell 1 rfl 1
        have n2 := hB2.cell 1 rfl 2
        have fn := fun o => hB2.frozen 1 rfl o
        have p0 := hB2.cell 2 rfl 0
        have p1 := hB2.cell 2 rfl 1
        have p2 := hB2.cell 2 rfl 2
        have ff := fun o => hB2.frozen 2 rfl o
        simp only [List.getElem?_toArray, List.getElem?_cons_zero, List.getElem?_cons_succ] at n0 n1 n2 p0 p1 p2
        have hne2 : b11 ≠ b7 := by omega
        have hne3 : b11 ≠ w.heap.size + 1 + 1 := by omega
        have hne4 : b7 ≠ w.heap.size + 1 + 1 := by omega
        go_wp2
        have st2 := (((hB2.put 1 (o := 1) (v := .slice (some ⟨b11, 0, none⟩) 2 2) rfl ⟨.inr (by show _ ≠ _; omega), .inl rfl, .inr (by show _ ≠ _; omega), .inr (by show _ ≠ _; omega), .inr (by show _ ≠ _; omega), trivial⟩ (by omega)).put 2 (o := 0) (v := .int .i64 1) rfl ⟨.inr (by show _ ≠ _; omega), .inr (by show _ ≠ _; omega), .inl rfl, .inr (by show _ ≠ _; omega), .inr (by show _ ≠ _; omega), trivial⟩ (by omega)).put 2 (o := 1) (v := .slice (some ⟨b11, 0, none⟩) 2 2) rfl ⟨.inr (by show _ ≠ _; omega), .inr (by show _ ≠ _; omega), .inl rfl, .inr (by show _ ≠ _; omega), .inr (by show _ ≠ _; omega), trivial⟩ (by omega)).put 2 (o := 2) (v := .slice Ao 0 co) rfl ⟨.inr (by show _ ≠ _; omega), .inr (by show _ ≠ _; omega), .inl rfl, .inr (by show _ ≠ _; omega), .inr (by show _ ≠ _; omega), trivial⟩ (by omega)
        have t0 := st2.cell 2 rfl 0
        have t1 := st2.cell 2 rfl 1
        have t2 := st2.cell 2 rfl 2
        simp at t0 t1 t2
        have sp := st2.slr2 (lo := w.heap.size) 0 (by omega) (st2.lt 0 rfl) rfl
        exact bodyPost_ret (v := .agg #[.int .i64 1, .slice (some ⟨b11, 0, none⟩) 2 2, .slice Ao 0 co]) (by simp [results, Tryz.results16, go_sem, t0, t1, t2]) rfl ⟨_, _, rfl, by rw [hls]; exact sp, ⟨Ao, co, rfl, fun k x hx => by simp at hx⟩, st2.hb⟩
end Go.Proofs.YtbfanhdofopnnaaGreat
