import Derived.Test.YtcoeiimohkofjaaGreatQY
import Derived.Test.YtcoeiimohkofjaaGreatVn
import Derived.Test.YtcoeiimohkofjaaGreatQU
set_option linter.unusedSimpArgs false
set_option linter.unusedVariables false
/-! The scene's shapes: the contracts of laws.scenePoints, sceneLine, sceneRect, scenePoint, isSceneRect, rectPolygon, meets, holds. -/
namespace PF
open Go Go.RowKit JR
/-- an array of two points in a block is a slice of two points -/
theorem SlP_arr {w : World} {b : Nat} {p q : Int × Int} {T : TypeId} (h : w.heap[b]? = some (.cells #[.int .i64 p.1, .int .i64 p.2, .int .i64 q.1, .int .i64 q.2] T (0, 0))) (c : Nat) : SlP w (.slice (some ⟨b, 0, none⟩) 2 c) [p, q] := by
  refine ⟨_, c, rfl, fun k x hx => ?_⟩
  have z0 := cellAt h 0
  have z1 := cellAt h 1
  have z2 := cellAt h 2
  have z3 := cellAt h 3
  simp only [List.getElem?_toArray, List.getElem?_cons_zero, List.getElem?_cons_succ] at z0 z1 z2 z3
  match k, hx with
  | 0, hx => simp at hx; subst hx; exact ⟨b, 0, rfl, z0, z1⟩
  | 1, hx => simp at hx; subst hx; exact ⟨b, 0, rfl, z2, z3⟩
/-- three cells of a block stored -/
theorem set3 {w w1 : World} {T : TypeId} {n : Nat} {a b c x y z : Value} {L : List (Nat × Array Value × TypeId)} (st : Blk w w1 ((n, #[a, b, c], T) :: L)) (hne : ∀ e ∈ L, e.1 ≠ n) (hn : w.heap.size ≤ n) :
    Blk w (((w1.setCell ⟨n, 0, none⟩ x).setCell ⟨n, 1, none⟩ y).setCell ⟨n, 2, none⟩ z) ((n, #[x, y, z], T) :: L) ∧ ∀ k, k ≠ n → (((w1.setCell ⟨n, 0, none⟩ x).setCell ⟨n, 1, none⟩ y).setCell ⟨n, 2, none⟩ z).heap[k]? = w1.heap[k]? := by
  have hj : ∀ (cs : Array Value) (j : Nat) (x : Nat × Array Value × TypeId), j ≠ 0 → ((n, cs, T) :: L)[j]? = some x → x.1 ≠ n := fun cs j x hj hx => by
    obtain ⟨j, rfl⟩ : ∃ i, j = i + 1 := ⟨j - 1, by omega⟩
    exact hne x (List.mem_of_getElem? (by simpa using hx))
  have p0 := st.set (o := 0) (v := x) 0 rfl (hj _) hn
  have p1 := p0.set (o := 1) (v := y) 0 rfl (hj _) hn
  have p2 := p1.set (o := 2) (v := z) 0 rfl (hj _) hn
  simp only [List.set_cons_zero, List.setIfInBounds_toArray, List.set_cons_succ] at p2
  refine ⟨p2, fun k hk => ?_⟩
  iterate 3 refine (Below.heap_setCell _ _ _ _ (by show k ≠ n; omega)).trans ?_
  rfl
end PF
namespace Go.Proofs.YtcoeiimohkofjaaGreat
open Go.RowKit PF JR
set_option maxHeartbeats 1000000 in
theorem scp_n (l : List (Int × Int)) (hl : l.length ≤ 2147483647) (v : Value) (w : World) (hv : SlP w v l) :
    Calls Tryz.prog 42 #[v] w fun e w' => ∃ v', e = .returned v' ∧ SlR w.heap.size w'.heap.size w' v' l ∧ Below w.heap.size w w' := by
  obtain ⟨A, c, rfl, hk⟩ := hv
  obtain ⟨i0, hi, hz0, hz1, hz2⟩ := info_parts infoP
  go_enter Tryz.func42, Tryz.ntmps42
  go_wp2
  go_loopw [3, 8] (fun v i wr => ∃ k : Nat, k ≤ l.length ∧ i = .int .i64 k ∧ wr.ownsRow w.heap.size 63 2 v k (cellsP (l.take k)) ∧ Below w.heap.size w wr) (fun _ i _ => l.length - (intOf i).toNat)
  case atStart => exact ⟨0, Nat.zero_le _, rfl, World.ownsRow_nil _ _ _ _, Below.refl _ _⟩
  case round =>
    obtain ⟨k, hkl, rfl, hown, hnx⟩ := hrel
    rcases Nat.lt_or_ge k l.length with hlt | hge
    · obtain ⟨p, hp⟩ : ∃ p, l[k]? = some p := ⟨l[k], by simp [hlt]⟩
      obtain ⟨b, off, rfl, h1, h2⟩ := hk k p hp
      have g1 := (hnx.cell (World.block_lt_of_cell? w _ h1)).trans h1
      have g2 := (hnx.cell (World.block_lt_of_cell? w _ h2)).trans h2
      clear h1 h2 hk
      go_wp2_with (first | (at_builtin; refine wpList_append_own _ rfl _ _ 31 rfl w.heap.size 63 i0 (.agg #[.int .i64 0, .int .i64 0]) 2 16 Tryz.underlying31 hi hz0 hz1 hz2 rfl (by decide) _ _ _ rfl ((hown.alloc _).alloc _) ⟨wr.heap.size + 1, 0, none⟩ 1 1 [.int .i64 p.1, .int .i64 p.2] rfl rfl ?c1 ?c2 ?c3 ?c4 ?c5 ?_))
      case c1 => exact two_cells _ _ _ _ _
      case c2 => intro u hu; simp at hu; rcases hu with rfl | rfl <;> rfl
      case c3 => unfold maxLen; omega
      case c4 => omega
      case c5 => have := hnx.size; simp; omega
      intro v' w1 hown' hgrow _
      have hB := row_below (((hnx.alloc hnx.size _).alloc (by have := hnx.size; simp; omega) _)) hgrow (fun g hg => (hown.lt g hg).1) (by have := hnx.size; simp; omega)
      rw [← cellsP_snoc l k p hp] at hown'
      clear hgrow hown hnx
      go_wp2
      go_roundw
      case rel => exact ⟨k + 1, by omega, by go_num, hown', hB⟩
      case measure => simp [intOf]; omega
    · have hkk : k = l.length := by omega
      subst hkk
      rw [List.take_length] at hown
      clear hk
      go_wp2
      go_ret
      exact ⟨_, rfl, SlR.own hown (Nat.le_refl _), hnx⟩
theorem scLn_r (l : List (Int × Int)) (hl : l.length ≤ 2147483647) (v : Value) (w : World) (hv : SlP w v l) :
    Calls Tryz.prog 20 #[v] w fun e w' => ∃ v', e = .returned (.agg #[.int .i64 2, v', .slice none 0 0]) ∧ SlR w.heap.size w'.heap.size w' v' l ∧ Below w.heap.size w w' := by
  obtain ⟨A, c, rfl, -⟩ := id hv
  go_enter Tryz.func20, Tryz.ntmps20
  go_wp2_with (go_at_call 42; refine JR.StopY.out ?_)
  refine ⟨?_⟩
  have st0 := (Blk.nil w).push rfl #[.int .i64 0, .slice none 0 0, .slice none 0 0] 34
  refine (scp_n l hl _ _ (hv.below st0.hb)).mono ?_
  rintro e w1 ⟨v', rfl, hS, hb⟩
  have st1 := st0.ext hb
  have hSR := hS
  obtain ⟨A', c', rfl, -⟩ := id hS
  clear hb st0 hv
  have x0 := st1.cell 0 rfl 0
  have x1 := st1.cell 0 rfl 1
  have x2 := st1.cell 0 rfl 2
  have xf := fun o => st1.frozen 0 rfl o
  simp only [List.getElem?_toArray, List.getElem?_cons_zero, List.getElem?_cons_succ] at x0 x1 x2
  go_wp2
  obtain ⟨st2, hk2⟩ := set3 (x := .int .i64 2) (y := .slice A' l.length c') (z := .slice none 0 0) st1 (fun _ h => by simp at h) (Nat.le_refl _)
  generalize ((w1.setCell _ _).setCell _ _).setCell _ _ = w2 at *
  have hS0 := hSR.keep (w' := w2) fun b h1 h2 => hk2 b (by simp at h1; omega)
  have hS : SlR w.heap.size w2.heap.size w2 (.slice A' l.length c') l := by
    obtain ⟨A, c, e1, e2⟩ := hS0
    refine ⟨A, c, e1, fun k p hp => ?_⟩
    obtain ⟨b, g1, g2, g3, g4, g5⟩ := e2 k p hp
    exact ⟨b, g1, by simp at g2; omega, World.block_lt_of_cell? w2 _ g4, g4, g5⟩
  clear x0 x1 x2 xf
  have x0 := st2.cell 0 rfl 0
  have x1 := st2.cell 0 rfl 1
  have x2 := st2.cell 0 rfl 2
  simp only [List.getElem?_toArray, List.getElem?_cons_zero, List.getElem?_cons_succ] at x0 x1 x2
  exact bodyPost_ret (v := .agg #[.int .i64 2, .slice A' l.length c', .slice none 0 0]) (by simp [results, Tryz.results20, go_sem, x0, x1, x2]) rfl ⟨_, rfl, hS, st2.hb⟩
theorem scLn_n (l : List (Int × Int)) (hl : l.length ≤ 2147483647) (v : Value) (w : World) (hv : SlP w v l) :
    Calls Tryz.prog 20 #[v] w fun e w' => ∃ v', e = .returned (.agg #[.int .i64 2, v', .slice none 0 0]) ∧ SlP w' v' l ∧ Below w.heap.size w w' :=
  (scLn_r l hl v w hv).mono fun _ _ ⟨v', h1, h2, h3⟩ => ⟨v', h1, h2.p, h3⟩
set_option maxRecDepth 100000 in
theorem scRc_n (a b c d : Int) (w : World) :
    Calls Tryz.prog 26 #[.agg #[.int .i64 a, .int .i64 b, .int .i64 c, .int .i64 d]] w fun e w' => ∃ v', e = .returned (.agg #[.int .i64 1, v', .slice none 0 0]) ∧ SlP w' v' [(a, b), (c, d)] ∧ Below w.heap.size w w' := by
  have st0 := ((Blk.nil w).push rfl #[.int .i64 a, .int .i64 b, .int .i64 c, .int .i64 d] 42).push (b := w.heap.size + 1) (by simp) #[.int .i64 0, .slice none 0 0, .slice none 0 0] 34
  have hv := SlP_arr (p := (a, b)) (q := (c, d)) (st0.known 1 _ rfl) 2
  go_enter Tryz.func26, Tryz.ntmps26
  go_wp2_with (go_at_call 42; refine JR.StopY.out ?_)
  refine ⟨?_⟩
  refine (scp_n [(a, b), (c, d)] (by simp) _ _ hv).mono ?_
  rintro e w1 ⟨v', rfl, hS, hb⟩
  have st1 := st0.ext hb
  have hSR := hS
  obtain ⟨A', c', rfl, -⟩ := id hS
  clear hb st0 hv
  have x0 := st1.cell 0 rfl 0
  have x1 := st1.cell 0 rfl 1
  have x2 := st1.cell 0 rfl 2
  have xf := fun o => st1.frozen 0 rfl o
  simp only [List.getElem?_toArray, List.getElem?_cons_zero, List.getElem?_cons_succ] at x0 x1 x2
  go_wp2
  obtain ⟨st2, hk2⟩ := set3 (x := .int .i64 1) (y := .slice A' [(a, b), (c, d)].length c') (z := .slice none 0 0) st1 (fun e h => by simp at h; subst h; simp) (by omega)
  simp only [List.length_cons, List.length_nil, Nat.reduceAdd] at st2 hk2
  generalize ((w1.setCell _ _).setCell _ _).setCell _ _ = w2 at *
  have hS := (hSR.keep (w' := w2) fun b h1 h2 => hk2 b (by simp at h1; omega)).p
  clear x0 x1 x2 xf
  have x0 := st2.cell 0 rfl 0
  have x1 := st2.cell 0 rfl 1
  have x2 := st2.cell 0 rfl 2
  simp only [List.getElem?_toArray, List.getElem?_cons_zero, List.getElem?_cons_succ] at x0 x1 x2
  exact bodyPost_ret (v := .agg #[.int .i64 1, .slice A' 2 c', .slice none 0 0]) (by simp [results, Tryz.results26, go_sem, x0, x1, x2]) rfl ⟨_, rfl, hS, st2.hb⟩
/-- laws.isSceneRect -/
def isrB (a b c d : Int) : Bool := iscB [(a, b), (c, d)] 2 && (decide (a < c) && decide (b < d))
set_option maxRecDepth 100000 in
theorem isr_c (a b c d : Int) (w : World) :
    Calls Tryz.prog 25 #[.agg #[.int .i64 a, .int .i64 b, .int .i64 c, .int .i64 d]] w fun e w' => e = .returned (.bool (isrB a b c d)) ∧ Below w.heap.size w w' := by
  have st0 := (Blk.nil w).push rfl #[.int .i64 a, .int .i64 b, .int .i64 c, .int .i64 d] 42
  have hv := SlP_arr (p := (a, b)) (q := (c, d)) (st0.known 0 _ rfl) 2
  unfold isrB
  obtain ⟨ans, hans⟩ : ∃ q, (iscB [(a, b), (c, d)] 2 && (decide (a < c) && decide (b < d))) = q := ⟨_, rfl⟩
  rw [hans]
  go_enter Tryz.func25, Tryz.ntmps25
  go_wp2_with (go_at_call 17; refine JR.StopY.out ?_)
  refine ⟨?_⟩
  refine (isc_c [(a, b), (c, d)] 2 (by simp) _ _ hv).mono ?_
  rintro e w1 ⟨rfl, hb⟩
  have st1 := st0.ext hb
  clear hb st0 hv
  have x0 := st1.cell 0 rfl 0
  have x1 := st1.cell 0 rfl 1
  have x2 := st1.cell 0 rfl 2
  have x3 := st1.cell 0 rfl 3
  simp only [List.getElem?_toArray, List.getElem?_cons_zero, List.getElem?_cons_succ] at x0 x1 x2 x3
  generalize iscB [(a, b), (c, d)] 2 = r at *
  cases r with
  | false =>
    rw [Bool.false_and] at hans
    subst hans
    go_wp2
    go_ret
    exact ⟨rfl, st1.hb⟩
  | true =>
    rw [Bool.true_and] at hans
    by_cases c1 : a < c
    · rw [decide_eq_true c1, Bool.true_and] at hans
      subst hans
      go_wp2
      go_ret
      exact ⟨rfl, st1.hb⟩
    · rw [decide_eq_false c1, Bool.false_and] at hans
      subst hans
      have d1 := decide_eq_false c1
      go_wp2
      go_ret
      exact ⟨rfl, st1.hb⟩
set_option maxRecDepth 100000 in
/-- spec.GeoCorners, laws.rectPolygon -/
theorem gco_n (a b c d : Int) (w : World) :
    Calls Tryz.prog 36 #[.agg #[.int .i64 a, .int .i64 b, .int .i64 c, .int .i64 d]] w fun e w' => ∃ g, e = .returned (.slice (some ⟨g, 0, none⟩) 5 5) ∧ w'.heap[g]? = some (.cells #[.int .i64 a, .int .i64 b, .int .i64 c, .int .i64 b, .int .i64 c, .int .i64 d, .int .i64 a, .int .i64 d, .int .i64 a, .int .i64 b] 27 (0, 0)) ∧ Below w.heap.size w w' := by
  have st0 := (Blk.nil w).push rfl #[.int .i64 a, .int .i64 b, .int .i64 c, .int .i64 d] 42
  have st1 := st0.push (b := w.heap.size + 1) (by simp) #[.int .i64 a, .int .i64 b, .int .i64 c, .int .i64 b, .int .i64 c, .int .i64 d, .int .i64 a, .int .i64 d, .int .i64 a, .int .i64 b] 27
  go_enter Tryz.func36, Tryz.ntmps36
  go_wp2
  go_ret
  exact ⟨_, rfl, st1.known 0 _ rfl, st1.hb⟩
set_option maxRecDepth 100000 in
theorem rpo_n (a b c d : Int) (w : World) :
    Calls Tryz.prog 37 #[.agg #[.int .i64 a, .int .i64 b, .int .i64 c, .int .i64 d]] w fun e w' => ∃ v', e = .returned (.agg #[v', .slice none 0 0]) ∧ SlP w' v' [(a, b), (c, b), (c, d), (a, d)] ∧ Below w.heap.size w w' := by
  have st0 := ((Blk.nil w).push rfl #[.int .i64 a, .int .i64 b, .int .i64 c, .int .i64 d] 42).push (b := w.heap.size + 1) (by simp) #[.slice none 0 0, .slice none 0 0] 25
  go_enter Tryz.func37, Tryz.ntmps37
  go_wp2_with (go_at_call 36; refine JR.StopY.out ?_)
  refine ⟨?_⟩
  refine (gco_n a b c d _).mono ?_
  rintro e w1 ⟨g, rfl, hg, hb⟩
  have st1 := st0.ext hb
  have hgn : g ≠ w.heap.size + 1 := by
    rintro rfl
    have h2 := st1.known 0 _ rfl
    rw [hg] at h2
    simp at h2
  clear hb st0
  have x0 := st1.cell 0 rfl 0
  have x1 := st1.cell 0 rfl 1
  have xf := fun o => st1.frozen 0 rfl o
  simp only [List.getElem?_toArray, List.getElem?_cons_zero, List.getElem?_cons_succ] at x0 x1
  go_wp2
  have p0 := st1.put (o := 0) (v := .slice (some ⟨g, 0, none⟩) 4 5) 0 rfl ⟨.inl rfl, .inr (by simp), trivial⟩ (by omega)
  have p1 := p0.put (o := 1) (v := .slice none 0 0) 0 rfl ⟨.inl rfl, .inr (by simp), trivial⟩ (by omega)
  simp only [List.set_cons_zero, List.setIfInBounds_toArray, List.set_cons_succ] at p1
  have hg2 : ((w1.setCell ⟨w.heap.size + 1, 0, none⟩ (.slice (some ⟨g, 0, none⟩) 4 5)).setCell ⟨w.heap.size + 1, 1, none⟩ (.slice none 0 0)).heap[g]? = _ := ((Below.heap_setCell _ _ _ _ (by show g ≠ _; exact hgn)).trans (Below.heap_setCell _ _ _ _ (by show g ≠ _; exact hgn))).trans hg
  generalize (w1.setCell _ _).setCell _ _ = w2 at *
  clear p0 x0 x1 xf st1
  have x0 := p1.cell 0 rfl 0
  have x1 := p1.cell 0 rfl 1
  simp only [List.getElem?_toArray, List.getElem?_cons_zero, List.getElem?_cons_succ] at x0 x1
  refine bodyPost_ret (v := .agg #[.slice (some ⟨g, 0, none⟩) 4 5, .slice none 0 0]) (by simp [results, Tryz.results37, go_sem, x0, x1]) rfl ⟨_, rfl, ⟨_, 5, rfl, fun k x hx => ?_⟩, p1.hb⟩
  have z0 := cellAt hg2 0
  have z1 := cellAt hg2 1
  have z2 := cellAt hg2 2
  have z3 := cellAt hg2 3
  have z4 := cellAt hg2 4
  have z5 := cellAt hg2 5
  have z6 := cellAt hg2 6
  have z7 := cellAt hg2 7
  simp only [List.getElem?_toArray, List.getElem?_cons_zero, List.getElem?_cons_succ] at z0 z1 z2 z3 z4 z5 z6 z7
  match k, hx with
  | 0, hx => simp at hx; subst hx; exact ⟨g, 0, rfl, z0, z1⟩
  | 1, hx => simp at hx; subst hx; exact ⟨g, 0, rfl, z2, z3⟩
  | 2, hx => simp at hx; subst hx; exact ⟨g, 0, rfl, z4, z5⟩
  | 3, hx => simp at hx; subst hx; exact ⟨g, 0, rfl, z6, z7⟩
/-- laws.meets, laws.holds: over impl.Ask -/
theorem mee_c (K J : Int) (A1 A2 A3 A4 : Option Addr) (n1 n2 n3 n4 k1 k2 k3 k4 : Nat) (c1 i1 c2 i2 : Bool) (w : World)
    (h1 : ∀ u, Below w.heap.size w u → Calls Tryz.prog 21 #[.agg #[.int .i64 K, .slice A1 n1 k1, .slice A2 n2 k2], .agg #[.int .i64 J, .slice A3 n3 k3, .slice A4 n4 k4], .int .i64 0, .int .i64 0] u fun e u' => e = .returned (.tuple #[.bool c1, .bool i1]) ∧ Below u.heap.size u u')
    (h2 : ∀ u, Below w.heap.size w u → Calls Tryz.prog 21 #[.agg #[.int .i64 J, .slice A3 n3 k3, .slice A4 n4 k4], .agg #[.int .i64 K, .slice A1 n1 k1, .slice A2 n2 k2], .int .i64 0, .int .i64 0] u fun e u' => e = .returned (.tuple #[.bool c2, .bool i2]) ∧ Below u.heap.size u u') :
    Calls Tryz.prog 29 #[.agg #[.int .i64 K, .slice A1 n1 k1, .slice A2 n2 k2], .agg #[.int .i64 J, .slice A3 n3 k3, .slice A4 n4 k4]] w fun e w' => e = .returned (.tuple #[.bool i1, .bool (i1 == i2)]) ∧ Below w.heap.size w w' := by
  have st0 := ((Blk.nil w).push rfl #[.int .i64 K, .slice A1 n1 k1, .slice A2 n2 k2] 34).push (b := w.heap.size + 1) (by simp) #[.int .i64 J, .slice A3 n3 k3, .slice A4 n4 k4] 34
  go_enter Tryz.func29, Tryz.ntmps29
  go_wp2_with (go_at_call 21; refine JR.StopY.out ?_)
  refine ⟨?_⟩
  refine (h1 _ st0.hb).mono ?_
  rintro e w1 ⟨rfl, hb⟩
  have st1 := st0.ext hb
  clear hb st0 h1
  have x0 := st1.cell 0 rfl 0
  have x1 := st1.cell 0 rfl 1
  have x2 := st1.cell 0 rfl 2
  have y0 := st1.cell 1 rfl 0
  have y1 := st1.cell 1 rfl 1
  have y2 := st1.cell 1 rfl 2
  simp only [List.getElem?_toArray, List.getElem?_cons_zero, List.getElem?_cons_succ] at x0 x1 x2 y0 y1 y2
  go_wp2_with (go_at_call 21; refine JR.StopY.out ?_)
  refine ⟨?_⟩
  refine (h2 _ st1.hb).mono ?_
  rintro e w2 ⟨rfl, hb⟩
  have st2 := st1.ext hb
  clear hb st1 h2 x0 x1 x2 y0 y1 y2
  go_wp2
  go_ret2
  exact ⟨rfl, st2.hb⟩
theorem hol_c (K J : Int) (A1 A2 A3 A4 : Option Addr) (n1 n2 n3 n4 k1 k2 k3 k4 : Nat) (c1 i1 : Bool) (w : World)
    (h1 : ∀ u, Below w.heap.size w u → Calls Tryz.prog 21 #[.agg #[.int .i64 K, .slice A1 n1 k1, .slice A2 n2 k2], .agg #[.int .i64 J, .slice A3 n3 k3, .slice A4 n4 k4], .int .i64 0, .int .i64 0] u fun e u' => e = .returned (.tuple #[.bool c1, .bool i1]) ∧ Below u.heap.size u u') :
    Calls Tryz.prog 27 #[.agg #[.int .i64 K, .slice A1 n1 k1, .slice A2 n2 k2], .agg #[.int .i64 J, .slice A3 n3 k3, .slice A4 n4 k4]] w fun e w' => e = .returned (.bool c1) ∧ Below w.heap.size w w' := by
  have st0 := ((Blk.nil w).push rfl #[.int .i64 K, .slice A1 n1 k1, .slice A2 n2 k2] 34).push (b := w.heap.size + 1) (by simp) #[.int .i64 J, .slice A3 n3 k3, .slice A4 n4 k4] 34
  go_enter Tryz.func27, Tryz.ntmps27
  go_wp2_with (go_at_call 21; refine JR.StopY.out ?_)
  refine ⟨?_⟩
  refine (h1 _ st0.hb).mono ?_
  rintro e w1 ⟨rfl, hb⟩
  have st1 := st0.ext hb
  clear hb st0 h1
  go_wp2
  go_ret
  exact ⟨rfl, st1.hb⟩
end Go.Proofs.YtcoeiimohkofjaaGreat
set_option linter.unusedSimpArgs false
set_option linter.unusedVariables false
/-! impl.Ask of the scene's shapes, exactly: the outer one a point, a rectangle, a line (not asked about lines), a polygon (asked about points; a convex one without holes: about all). -/
namespace Go.Proofs.YtcoeiimohkofjaaGreat
open Go.RowKit PF JR
/-- any polygon, asked about points alone -/
theorem yShcP {K : Nat} {n0 : Nat} {l : List (Int × Int)} {H : List (List (Int × Int))} {w : World} (S0 : PolS n0 l H w) : ShcM K yC 90 (.pointer (some ⟨n0, 0, none⟩)) (fun p => polHas l H p) (fun a b c d => rchV l true (rl a b c d)) (fun m => rchV l false m) (fun m _ => rchV l true m) (fun _ _ _ _ => False) (fun _ => False) (fun _ _ => False) w where
  mpt := ⟨fun _ _ => by kernel_rfl, fun _ _ => by kernel_rfl⟩
  mrc := ⟨fun _ _ => by kernel_rfl, fun _ _ => by kernel_rfl⟩
  mln := ⟨fun _ _ => by kernel_rfl, fun _ _ => by kernel_rfl⟩
  mpl := ⟨fun _ _ => by kernel_rfl, fun _ _ => by kernel_rfl⟩
  npt := fun _ => by kernel_rfl
  nrc := fun _ => by kernel_rfl
  nln := fun _ => by kernel_rfl
  npl := fun _ => by kernel_rfl
  cpt := fun p hp u hu => S0.cpt hp u hu
  crc := fun _ _ _ _ h => h.elim
  cln := fun _ h => h.elim
  cpl := fun _ _ _ _ h => h.elim
/-- what a shape contains -/
def hdS (K : Int) (l : List (Int × Int)) (H : List (List (Int × Int))) (J : Int) (m : List (Int × Int)) (G : List (List (Int × Int))) : Bool :=
  if K = 0 then byK J m G (fun p => decide ((at' l 0).1 = p.1 ∧ (at' l 0).2 = p.2)) (fun a b c d => boxEq (a, b, c, d) (at' l 0)) (fun m => boxEq (ppB false m) (at' l 0)) (fun m _ => boxEq (ppB true m) (at' l 0))
  else if K = 1 then byK J m G (fun p => decide ((at' l 0).1 ≤ p.1 ∧ p.1 ≤ (at' l 1).1 ∧ (at' l 0).2 ≤ p.2 ∧ p.2 ≤ (at' l 1).2)) (fun a b c d => bcB ((at' l 0).1, (at' l 0).2, (at' l 1).1, (at' l 1).2) (a, b, c, d)) (fun m => bcB ((at' l 0).1, (at' l 0).2, (at' l 1).1, (at' l 1).2) (ppB false m)) (fun m _ => bcB ((at' l 0).1, (at' l 0).2, (at' l 1).1, (at' l 1).2) (ppB true m))
  else if K = 2 then byK J m G (fun p => anyN (ron l p) (l.length - 1)) (fun _ _ _ _ => false) (fun _ => false) (fun _ _ => false)
  else byK J m G (fun p => polHas l H p) (fun a b c d => rchV l true (rl a b c d)) (fun m => rchV l false m) (fun m _ => rchV l true m)
/-- what may be asked -/
def ScOk (K : Int) (l : List (Int × Int)) (H : List (List (Int × Int))) (J : Int) (m : List (Int × Int)) : Prop :=
  K = 0 ∨ K = 1 ∨ (K = 2 ∧ J ≠ 2 ∧ (J = 3 → (ppB true m).1 ≠ (ppB true m).2.2.1 ∧ (ppB true m).2.1 ≠ (ppB true m).2.2.2)) ∨ (K = 3 ∧ (J = 0 ∨ (H = [] ∧ ppV true l = true)))
/-- **impl.Ask of the scene's shapes, exactly** -/
theorem ask_sc {X : Nat} (hX : X = 0) (K : Int) (l : List (Int × Int)) (H : List (List (Int × Int))) (h : ShOk K l H) (J : Int) (m : List (Int × Int)) (G : List (List (Int × Int))) (hcv : ScOk K l H J m) (hJ : ShOk J m G) (va vha vb vhb : Value) (w : World)
    (hva : SlP w va l) (hvha : SlH w vha H) (hvb : SlP w vb m) (hvhb : SlH w vhb G) :
    Calls Tryz.prog 21 #[.agg #[.int .i64 K, va, vha], .agg #[.int .i64 J, vb, vhb], .int .i64 X, .int .i64 0] w fun e w' => e = .returned (.tuple #[.bool (hdS K l H J m G), .bool (mtV K l H J m G)]) ∧ Below w.heap.size w w' := by
  obtain ⟨hb, h3, hG, hK⟩ := h
  obtain ⟨A0, n0, c0, rfl⟩ : ∃ A n c, va = .slice A n c := by obtain ⟨A, c, h, -⟩ := hva; exact ⟨A, _, c, h⟩
  obtain ⟨A3, n3, c3, rfl⟩ : ∃ A n c, vha = .slice A n c := by obtain ⟨A, c, h, -⟩ := hvha; exact ⟨A, _, c, h⟩
  rcases hK with ⟨rfl, p, rfl⟩ | ⟨rfl, a, b, c, d, rfl, h1, h2⟩ | ⟨rfl, h1, h2⟩ | ⟨rfl, h1, h2⟩
  · rw [show mtV 0 _ H J m G = _ from if_pos rfl, show hdS 0 _ H J m G = _ from if_pos rfl]
    refine ask_any hX 0 A0 A3 n0 c0 n3 c3 (OR := fun _ _ _ _ => True) (OL := fun _ => True) (OP := fun _ _ => True) (g := pF) (h := pC) (T := 79) (fun u ob hu ho => (shaped0_c p.1 p.2 _ _ _ u (hva.below hu)).mono ?_) J m G hJ (fun _ _ _ _ _ _ => trivial) (fun _ => trivial) (fun _ => trivial) vb vhb hvb hvhb
    rintro e u' ⟨rfl, hb'⟩
    exact ⟨_, rfl, pShp hX (hb p (by simp)) u', pShc hX (hb p (by simp)) u', hb'⟩
  · rw [show mtV 1 _ H J m G = _ from (if_neg (by decide)).trans (if_pos rfl), show hdS 1 _ H J m G = _ from (if_neg (by decide)).trans (if_pos rfl)]
    refine ask_any hX 1 A0 A3 n0 c0 n3 c3 (OR := fun _ _ _ _ => True) (OL := fun _ => True) (OP := fun _ _ => True) (g := rF) (h := rC) (T := 81) (fun u ob hu ho => (shaped1_c a b c d _ _ _ u (hva.below hu)).mono ?_) J m G hJ (fun _ _ _ _ _ _ => trivial) (fun _ => trivial) (fun _ => trivial) vb vhb hvb hvhb
    rintro e u' ⟨rfl, hb'⟩
    exact ⟨_, rfl, rShp h1 h2 (hb _ (by simp)) (hb _ (by simp)) u', rShc hX h1 h2 (hb _ (by simp)) (hb _ (by simp)) u', hb'⟩
  · have hv : J ≠ 2 ∧ (J = 3 → (ppB true m).1 ≠ (ppB true m).2.2.1 ∧ (ppB true m).2.1 ≠ (ppB true m).2.2.2) := by
      rcases hcv with h | h | ⟨-, h⟩ | ⟨h, -⟩
      · cases h
      · cases h
      · exact h
      · cases h
    rw [show mtV 2 _ H J m G = _ from (if_neg (by decide)).trans ((if_neg (by decide)).trans (if_pos rfl)), show hdS 2 _ H J m G = _ from (if_neg (by decide)).trans ((if_neg (by decide)).trans (if_pos rfl))]
    refine ask_any hX 2 A0 A3 n0 c0 n3 c3 (OR := fun _ _ _ _ => True) (OL := fun _ => False) (OP := fun m _ => (ppB true m).1 ≠ (ppB true m).2.2.1 ∧ (ppB true m).2.1 ≠ (ppB true m).2.2.2) (g := lF) (h := lC) (T := 85) (fun u ob hu ho => (shapedL_c X hX l h2 h1 (fun q hq => (hb q hq).b) ob _ _ u ho (hva.below hu)).mono ?_) J m G hJ (fun _ _ _ _ _ _ => trivial) (fun h => hv.1 h) (fun h => hv.2 h) vb vhb hvb hvhb
    rintro e u' ⟨n, rfl, hS, hb'⟩
    exact ⟨_, rfl, lShp hX ⟨h1, h2, hb⟩ hS, lShc hX ⟨h1, h2, hb⟩ hS, hb'⟩
  · have hv : J = 0 ∨ (H = [] ∧ ppV true l = true) := by
      rcases hcv with h | h | ⟨h, -⟩ | ⟨-, h⟩
      · cases h
      · cases h
      · cases h
      · exact h
    rw [show mtV 3 _ H J m G = _ from (if_neg (by decide)).trans ((if_neg (by decide)).trans (if_neg (by decide))), show hdS 3 _ H J m G = _ from (if_neg (by decide)).trans ((if_neg (by decide)).trans (if_neg (by decide)))]
    rcases hv with hv | ⟨rfl, hv⟩
    · refine ask_any hX 3 A0 A3 n0 c0 n3 c3 (OR := fun _ _ _ _ => False) (OL := fun _ => False) (OP := fun _ _ => False) (g := yF) (h := yC) (T := 90) (fun u ob hu ho => (shapedKH_c X hX l H (okRn.k ⟨h1, h2, hb⟩) (fun x hx => (hG x hx).k) (by omega) ob _ _ u ho (hva.below hu) (hvha.below hu)).mono ?_) J m G hJ (fun _ _ _ _ h _ => by rw [hv] at h; cases h) (fun h => by rw [hv] at h; cases h) (fun h => by rw [hv] at h; cases h) vb vhb hvb hvhb
      rintro e u' ⟨n, rfl, hS, hb'⟩
      exact ⟨_, rfl, yShp hX ⟨⟨X, _, hX, hS⟩, ⟨h1, h2, hb⟩, hG, by omega⟩, yShcP ⟨⟨X, _, hX, hS⟩, ⟨h1, h2, hb⟩, hG, by omega⟩, hb'⟩
    · refine ask_any hX 3 A0 A3 n0 c0 n3 c3 (OR := fun _ _ _ _ => True) (OL := fun _ => True) (OP := fun _ _ => True) (g := yF) (h := yC) (T := 90) (fun u ob hu ho => (shapedKH_c X hX l [] (okRn.k ⟨h1, h2, hb⟩) (fun x hx => (hG x hx).k) (by omega) ob _ _ u ho (hva.below hu) (hvha.below hu)).mono ?_) J m G hJ (fun _ _ _ _ _ _ => trivial) (fun _ => trivial) (fun _ => trivial) vb vhb hvb hvhb
      rintro e u' ⟨n, rfl, hS, hb'⟩
      exact ⟨_, rfl, yShp hX ⟨⟨X, _, hX, hS⟩, ⟨h1, h2, hb⟩, hG, by omega⟩, yShc hX ⟨⟨X, _, hX, hS⟩, ⟨h1, h2, hb⟩, hG, by omega⟩ hv, hb'⟩
end Go.Proofs.YtcoeiimohkofjaaGreat
