import Derived.Test.YtkaoldmdikljiaaAwake
import Derived.Test.YtkaoldmdikljiaaPt
set_option linter.unusedSimpArgs false
set_option linter.unusedVariables false
namespace PF
open Go Go.RowKit JR
/-- what FnTurnRaycast's blocks hold -/
structure StR (T P : TypeId) (w u : World) (K S DX DY ax ay bx b_y px py : Int) : Prop where
  h0 : u.heap[w.heap.size]? = some (.cells #[.int .u8 K, .int .i64 S, .int .i64 DX, .int .i64 DY] T (0, 0))
  h1 : u.heap[w.heap.size + 1]? = some (.cells #[.int .i64 ax, .int .i64 ay] P (0, 0))
  h2 : u.heap[w.heap.size + 1 + 1]? = some (.cells #[.int .i64 bx, .int .i64 b_y] P (0, 0))
  h3 : u.heap[w.heap.size + 1 + 1 + 1]? = some (.cells #[.int .i64 px, .int .i64 py] P (0, 0))
  h4 : u.heap[w.heap.size + 1 + 1 + 1 + 1]? = some (.cells #[.int .i64 ax, .int .i64 ay, .int .i64 bx, .int .i64 b_y, .int .i64 px, .int .i64 py] P (0, 0))
  hb : Below w.heap.size w u
variable {T P : TypeId} {w u u' : World} {K S DX DY ax ay bx b_y px py : Int}
theorem StR.ext (h : StR T P w u K S DX DY ax ay bx b_y px py) (e : Below u.heap.size u u') : StR T P w u' K S DX DY ax ay bx b_y px py :=
  ⟨(e.block _ (lt_of_some h.h0)).trans h.h0, (e.block _ (lt_of_some h.h1)).trans h.h1, (e.block _ (lt_of_some h.h2)).trans h.h2, (e.block _ (lt_of_some h.h3)).trans h.h3, (e.block _ (lt_of_some h.h4)).trans h.h4, h.hb.trans (e.mono h.hb.size)⟩
theorem StR.kind (h : StR T P w u K S DX DY ax ay bx b_y px py) : StR T P w (u.setCell ⟨w.heap.size, 0, none⟩ (.int .u8 0)) 0 S DX DY ax ay bx b_y px py := by
  refine ⟨?_, (Below.heap_setCell _ _ _ _ (by show _ ≠ w.heap.size; omega)).trans h.h1, (Below.heap_setCell _ _ _ _ (by show _ ≠ w.heap.size; omega)).trans h.h2, (Below.heap_setCell _ _ _ _ (by show _ ≠ w.heap.size; omega)).trans h.h3, (Below.heap_setCell _ _ _ _ (by show _ ≠ w.heap.size; omega)).trans h.h4, h.hb.setCell (Nat.le_refl _) _⟩
  rw [setCell_row h.h0]
  exact setRow_same h.h0
theorem StR.sl (h : StR T P w u K S DX DY ax ay bx b_y px py) : SlP u (.slice (some ⟨w.heap.size + 1 + 1 + 1 + 1, 0, none⟩) 3 3) [(ax, ay), (bx, b_y), (px, py)] := by
  have c := fun o => cellAt h.h4 o
  refine ⟨_, 3, rfl, fun k p hp => ⟨_, 0, rfl, ?_⟩⟩
  match k, hp with
  | 0, hp => cases hp; exact ⟨c 0, c 1⟩
  | 1, hp => cases hp; exact ⟨c 2, c 3⟩
  | 2, hp => cases hp; exact ⟨c 4, c 5⟩
theorem StR.mk5 (w : World) (K S DX DY ax ay bx b_y px py : Int) : StR T P w (((((w.alloc (.cells #[.int .u8 K, .int .i64 S, .int .i64 DX, .int .i64 DY] T)).alloc (.cells #[.int .i64 ax, .int .i64 ay] P)).alloc (.cells #[.int .i64 bx, .int .i64 b_y] P)).alloc (.cells #[.int .i64 px, .int .i64 py] P)).alloc (.cells #[.int .i64 ax, .int .i64 ay, .int .i64 bx, .int .i64 b_y, .int .i64 px, .int .i64 py] P)) K S DX DY ax ay bx b_y px py := by
  generalize hA : Obj.cells #[.int .u8 K, .int .i64 S, .int .i64 DX, .int .i64 DY] T = a
  generalize hB : Obj.cells #[.int .i64 ax, .int .i64 ay] P = b
  generalize hC : Obj.cells #[.int .i64 bx, .int .i64 b_y] P = c
  generalize hD : Obj.cells #[.int .i64 px, .int .i64 py] P = d
  generalize hE : Obj.cells #[.int .i64 ax, .int .i64 ay, .int .i64 bx, .int .i64 b_y, .int .i64 px, .int .i64 py] P = e
  have e1 : (w.alloc a).heap.size = w.heap.size + 1 := by simp
  have e2 : ((w.alloc a).alloc b).heap.size = w.heap.size + 1 + 1 := by simp
  have e3 : (((w.alloc a).alloc b).alloc c).heap.size = w.heap.size + 1 + 1 + 1 := by simp
  have e4 : ((((w.alloc a).alloc b).alloc c).alloc d).heap.size = w.heap.size + 1 + 1 + 1 + 1 := by simp
  have n0 := heap_alloc_new w a
  have n1 := heap_alloc_new (w.alloc a) b
  have n2 := heap_alloc_new ((w.alloc a).alloc b) c
  have n3 := heap_alloc_new (((w.alloc a).alloc b).alloc c) d
  have n4 := heap_alloc_new ((((w.alloc a).alloc b).alloc c).alloc d) e
  rw [e1] at n1
  rw [e2] at n2
  rw [e3] at n3
  rw [e4] at n4
  subst hA hB hC hD hE
  refine ⟨?_, ?_, ?_, ?_, n4, (((((Below.refl _ _).alloc (Nat.le_refl _) _).alloc (by simp) _).alloc (by simp; omega) _).alloc (by simp; omega) _).alloc (by simp; omega) _⟩
  · exact (Below.heap_alloc _ _ _ (by omega)).trans ((Below.heap_alloc _ _ _ (by omega)).trans ((Below.heap_alloc _ _ _ (by omega)).trans ((Below.heap_alloc _ _ _ (by omega)).trans n0)))
  · exact (Below.heap_alloc _ _ _ (by omega)).trans ((Below.heap_alloc _ _ _ (by omega)).trans ((Below.heap_alloc _ _ _ (by omega)).trans n1))
  · exact (Below.heap_alloc _ _ _ (by omega)).trans ((Below.heap_alloc _ _ _ (by omega)).trans n2)
  · exact (Below.heap_alloc _ _ _ (by omega)).trans n3
end PF

theorem PF.tb3 (K S DX DY : Int) {ax ay bx b_y px py : Int} (hI : K ≤ 7 ∧ 1 ≤ S ∧ S ≤ 8 ∧ -4096 ≤ DX ∧ DX ≤ 4096 ∧ -4096 ≤ DY ∧ DY ≤ 4096) (h1 : -1024 ≤ ax ∧ ax ≤ 1024 ∧ -1024 ≤ ay ∧ ay ≤ 1024) (h2 : -1024 ≤ bx ∧ bx ≤ 1024 ∧ -1024 ≤ b_y ∧ b_y ≤ 1024) (h3 : -1024 ≤ px ∧ px ≤ 1024 ∧ -1024 ≤ py ∧ py ≤ 1024) :
    -16384 ≤ (PF.tpt K S DX DY (ax, ay)).1 ∧ (PF.tpt K S DX DY (ax, ay)).1 ≤ 16384 ∧ -16384 ≤ (PF.tpt K S DX DY (ax, ay)).2 ∧ (PF.tpt K S DX DY (ax, ay)).2 ≤ 16384 ∧ -16384 ≤ (PF.tpt K S DX DY (bx, b_y)).1 ∧ (PF.tpt K S DX DY (bx, b_y)).1 ≤ 16384 ∧ -16384 ≤ (PF.tpt K S DX DY (bx, b_y)).2 ∧ (PF.tpt K S DX DY (bx, b_y)).2 ≤ 16384 ∧ -16384 ≤ (PF.tpt K S DX DY (px, py)).1 ∧ (PF.tpt K S DX DY (px, py)).1 ≤ 16384 ∧ -16384 ≤ (PF.tpt K S DX DY (px, py)).2 ∧ (PF.tpt K S DX DY (px, py)).2 ≤ 16384 := by
  have a := PF.tpt_bd K S DX DY ⟨hI.2.1, hI.2.2.1⟩ hI.2.2.2 (ax, ay) h1
  have b := PF.tpt_bd K S DX DY ⟨hI.2.1, hI.2.2.1⟩ hI.2.2.2 (bx, b_y) h2
  have c := PF.tpt_bd K S DX DY ⟨hI.2.1, hI.2.2.1⟩ hI.2.2.2 (px, py) h3
  exact ⟨a.1, a.2.1, a.2.2.1, a.2.2.2, b.1, b.2.1, b.2.2.1, b.2.2.2, c.1, c.2.1, c.2.2.1, c.2.2.2⟩
namespace Go.Proofs.Ytkaoldmdikljiaa
open Go.RowKit PF JR
set_option maxHeartbeats 2000000 in
set_option maxRecDepth 100000 in
theorem turnRay_c (K S DX DY ax ay bx b_y px py : Int) (hK : 0 ≤ K) (w : World) :
    Calls Try.prog 4 #[.agg #[.int .u8 K, .int .i64 S, .int .i64 DX, .int .i64 DY], .agg #[.int .i64 ax, .int .i64 ay], .agg #[.int .i64 bx, .int .i64 b_y], .agg #[.int .i64 px, .int .i64 py]] w
      fun e w' => e = .returned (.bool true) ∧ Below w.heap.size w w' := by
  have st0 := StR.mk5 (T := 23) (P := 25) w K S DX DY ax ay bx b_y px py
  go_enter Try.func4, Try.ntmps4
  go_wp2_with (first | (go_at_call 6; refine Stop.out ?_) | (with_reducible refine stop_region ?_))
  refine ⟨?_⟩
  refine (ivt_c K S DX DY _).mono ?_
  rintro e w1 ⟨rfl, hb⟩
  have st1 := st0.ext hb
  clear hb st0
  have c00 := cellAt st1.h0 0
  have c01 := cellAt st1.h0 1
  have c02 := cellAt st1.h0 2
  have c03 := cellAt st1.h0 3
  have c10 := cellAt st1.h1 0
  have c11 := cellAt st1.h1 1
  have c20 := cellAt st1.h2 0
  have c21 := cellAt st1.h2 1
  have c30 := cellAt st1.h3 0
  have c31 := cellAt st1.h3 1
  simp only [List.getElem?_toArray, List.getElem?_cons_zero, List.getElem?_cons_succ] at c00 c01 c02 c03 c10 c11 c20 c21 c30 c31
  by_cases hI : K ≤ 7 ∧ 1 ≤ S ∧ S ≤ 8 ∧ -4096 ≤ DX ∧ DX ≤ 4096 ∧ -4096 ≤ DY ∧ DY ≤ 4096
  · rw [decide_eq_true hI]
    have sl1 := st1.sl
    go_wp2_with (first | (go_at_call 8; refine Stop.out ?_) | (go_at_call 9; refine Stop.out ?_) | (with_reducible refine stop_region ?_))
    refine ⟨?_⟩
    refine (varyPoints_c [(ax, ay), (bx, b_y), (px, py)] 3 3 (by simp) _ _ sl1).mono ?_
    rintro e w2 ⟨rfl, hb⟩
    have st2 := st1.ext hb
    clear hb st1 sl1  c00 c01 c02 c03 c10 c11 c20 c21 c30 c31
    have e2 : decide ((3 : Int) ≤ ([(ax, ay), (bx, b_y), (px, py)] : List (Int × Int)).length ∧ (([(ax, ay), (bx, b_y), (px, py)] : List (Int × Int)).length : Int) ≤ 3 ∧ ([(ax, ay), (bx, b_y), (px, py)] : List (Int × Int)).all okP = true) = ([(ax, ay), (bx, b_y), (px, py)] : List (Int × Int)).all okP := by simp
    rw [e2]
    clear e2
    cases hok : ([(ax, ay), (bx, b_y), (px, py)] : List (Int × Int)).all okP with
    | false =>
      go_wp2_with (first | (go_at_call 9; refine Stop.out ?_) | (go_at_call 14; refine Stop.out ?_) | (with_reducible refine stop_region ?_))
      refine ⟨?_⟩
      refine (awake_c _).mono ?_
      rintro e w3 ⟨rfl, hb⟩
      go_wp2
      go_ret
      exact ⟨rfl, st2.hb.trans (hb.mono st2.hb.size)⟩
    | true =>
      have hbd : (-1024 ≤ ax ∧ ax ≤ 1024 ∧ -1024 ≤ ay ∧ ay ≤ 1024) ∧ (-1024 ≤ bx ∧ bx ≤ 1024 ∧ -1024 ≤ b_y ∧ b_y ≤ 1024) ∧ (-1024 ≤ px ∧ px ≤ 1024 ∧ -1024 ≤ py ∧ py ≤ 1024) := by simpa [okP, and_assoc] using hok
      have hall : ∀ p ∈ ([(ax, ay), (bx, b_y), (px, py)] : List (Int × Int)), -65536 ≤ p.1 ∧ p.1 ≤ 65536 ∧ -65536 ≤ p.2 ∧ p.2 ≤ 65536 := by
        intro p hp
        simp at hp
        rcases hp with rfl | rfl | rfl <;> (simp only; omega)
      clear hok
      have c00 := cellAt st2.h0 0
      have c01 := cellAt st2.h0 1
      have c02 := cellAt st2.h0 2
      have c03 := cellAt st2.h0 3
      have c10 := cellAt st2.h1 0
      have c11 := cellAt st2.h1 1
      have c20 := cellAt st2.h2 0
      have c21 := cellAt st2.h2 1
      have c30 := cellAt st2.h3 0
      have c31 := cellAt st2.h3 1
      simp only [List.getElem?_toArray, List.getElem?_cons_zero, List.getElem?_cons_succ] at c00 c01 c02 c03 c10 c11 c20 c21 c30 c31
      go_wp2_with (first | (go_at_call 14; refine Stop.out ?_) | (with_reducible refine stop_region ?_))
      refine ⟨?_⟩
      refine (implRay_c ax ay bx b_y px py (by omega) _).mono ?_
      rintro e w3 ⟨rfl, hb⟩
      have st3 := st2.ext hb
      clear hb st2 c00 c01 c02 c03 c10 c11 c20 c21 c30 c31
      have c00 := cellAt st3.h0 0
      have c01 := cellAt st3.h0 1
      have c02 := cellAt st3.h0 2
      have c03 := cellAt st3.h0 3
      have c10 := cellAt st3.h1 0
      have c11 := cellAt st3.h1 1
      have c20 := cellAt st3.h2 0
      have c21 := cellAt st3.h2 1
      have c30 := cellAt st3.h3 0
      have c31 := cellAt st3.h3 1
      simp only [List.getElem?_toArray, List.getElem?_cons_zero, List.getElem?_cons_succ] at c00 c01 c02 c03 c10 c11 c20 c21 c30 c31
      go_wp2_with (first | (go_at_call 14; refine Stop.out ?_) | (with_reducible refine stop_region ?_))
      refine ⟨?_⟩
      refine (implRay_c bx b_y ax ay px py (by omega) _).mono ?_
      rw [rcIn_swap, rcOn_swap]
      rintro e w4 ⟨rfl, hb⟩
      have st4 := st3.ext hb
      clear hb st3 c00 c01 c02 c03 c10 c11 c20 c21 c30 c31
      have c00 := cellAt st4.h0 0
      have c01 := cellAt st4.h0 1
      have c02 := cellAt st4.h0 2
      have c03 := cellAt st4.h0 3
      have c10 := cellAt st4.h1 0
      have c11 := cellAt st4.h1 1
      have c20 := cellAt st4.h2 0
      have c21 := cellAt st4.h2 1
      have c30 := cellAt st4.h3 0
      have c31 := cellAt st4.h3 1
      simp only [List.getElem?_toArray, List.getElem?_cons_zero, List.getElem?_cons_succ] at c00 c01 c02 c03 c10 c11 c20 c21 c30 c31
      go_wp2_with (first | (go_at_call 12; refine Stop.out ?_) | (with_reducible refine stop_region ?_))
      refine ⟨?_⟩
      refine (varyTurned_c K S DX DY (by omega) (by omega) (by omega) _ hall (by simp) _ _ st4.sl).mono ?_
      rintro e w5 ⟨v5, rfl, sv5, hb⟩
      have st5 := st4.ext hb
      clear hb st4 c00 c01 c02 c03 c10 c11 c20 c21 c30 c31
      have c00 := cellAt st5.h0 0
      have c01 := cellAt st5.h0 1
      have c02 := cellAt st5.h0 2
      have c03 := cellAt st5.h0 3
      have c10 := cellAt st5.h1 0
      have c11 := cellAt st5.h1 1
      have c20 := cellAt st5.h2 0
      have c21 := cellAt st5.h2 1
      have c30 := cellAt st5.h3 0
      have c31 := cellAt st5.h3 1
      simp only [List.getElem?_toArray, List.getElem?_cons_zero, List.getElem?_cons_succ] at c00 c01 c02 c03 c10 c11 c20 c21 c30 c31
      obtain ⟨A5, cp5, rfl, hk5⟩ := sv5
      obtain ⟨b5, o5, hA, x0, x1⟩ := hk5 0 _ rfl
      subst hA
      obtain ⟨b', o', hA, x2, x3⟩ := hk5 1 _ rfl
      cases hA
      obtain ⟨b', o', hA, x4, x5⟩ := hk5 2 _ rfl
      cases hA
      clear hk5
      go_wp2_with (first | (go_at_call 14; refine Stop.out ?_) | (with_reducible refine stop_region ?_))
      refine ⟨?_⟩
      have hbt := tb3 K S DX DY hI hbd.1 hbd.2.1 hbd.2.2
      have y0 : w5.cell? ⟨b5, o5, none⟩ = _ := x0
      have y1 : w5.cell? ⟨b5, o5 + 1, none⟩ = _ := x1
      have y2 : w5.cell? ⟨b5, o5 + 2, none⟩ = _ := x2
      have y3 : w5.cell? ⟨b5, o5 + 2 + 1, none⟩ = _ := x3
      have y4 : w5.cell? ⟨b5, o5 + 4, none⟩ = _ := x4
      have y5 : w5.cell? ⟨b5, o5 + 4 + 1, none⟩ = _ := x5
      clear x0 x1 x2 x3 x4 x5
      refine wp_region_K [] [.val (.slice (some ⟨b5, o5, none⟩) 3 cp5),
          .val (.pointer (some ⟨b5, o5, none⟩)),
          .val (.agg #[.int .i64 (tpt K S DX DY (ax, ay)).1, .int .i64 (tpt K S DX DY (ax, ay)).2]),
          .val (.slice (some ⟨b5, o5, none⟩) 3 cp5),
          .val (.pointer (some ⟨b5, o5 + 2, none⟩)),
          .val (.agg #[.int .i64 (tpt K S DX DY (bx, b_y)).1, .int .i64 (tpt K S DX DY (bx, b_y)).2]),
          .val (.slice (some ⟨b5, o5, none⟩) 3 cp5),
          .val (.pointer (some ⟨b5, o5 + 4, none⟩)),
          .val (.agg #[.int .i64 (tpt K S DX DY (px, py)).1, .int .i64 (tpt K S DX DY (px, py)).2]),
          .val (.tuple #[.bool (rcIn (tpt K S DX DY (ax, ay)).1 (tpt K S DX DY (ax, ay)).2 (tpt K S DX DY (bx, b_y)).1 (tpt K S DX DY (bx, b_y)).2 (tpt K S DX DY (px, py)).1 (tpt K S DX DY (px, py)).2), .bool (rcOn (tpt K S DX DY (ax, ay)).1 (tpt K S DX DY (ax, ay)).2 (tpt K S DX DY (bx, b_y)).1 (tpt K S DX DY (bx, b_y)).2 (tpt K S DX DY (px, py)).1 (tpt K S DX DY (px, py)).2)]),
          .val (.tuple #[.bool (rcIn (tpt K S DX DY (ax, ay)).1 (tpt K S DX DY (ax, ay)).2 (tpt K S DX DY (bx, b_y)).1 (tpt K S DX DY (bx, b_y)).2 (tpt K S DX DY (px, py)).1 (tpt K S DX DY (px, py)).2), .bool (rcOn (tpt K S DX DY (ax, ay)).1 (tpt K S DX DY (ax, ay)).2 (tpt K S DX DY (bx, b_y)).1 (tpt K S DX DY (bx, b_y)).2 (tpt K S DX DY (px, py)).1 (tpt K S DX DY (px, py)).2)]),
          .val (.bool (rcIn (tpt K S DX DY (ax, ay)).1 (tpt K S DX DY (ax, ay)).2 (tpt K S DX DY (bx, b_y)).1 (tpt K S DX DY (bx, b_y)).2 (tpt K S DX DY (px, py)).1 (tpt K S DX DY (px, py)).2)),
          .val (.bool (rcOn (tpt K S DX DY (ax, ay)).1 (tpt K S DX DY (ax, ay)).2 (tpt K S DX DY (bx, b_y)).1 (tpt K S DX DY (bx, b_y)).2 (tpt K S DX DY (px, py)).1 (tpt K S DX DY (px, py)).2)),
          .val (.bool (rcIn (tpt K S DX DY (ax, ay)).1 (tpt K S DX DY (ax, ay)).2 (tpt K S DX DY (bx, b_y)).1 (tpt K S DX DY (bx, b_y)).2 (tpt K S DX DY (px, py)).1 (tpt K S DX DY (px, py)).2)),
          .val (.bool (rcOn (tpt K S DX DY (ax, ay)).1 (tpt K S DX DY (ax, ay)).2 (tpt K S DX DY (bx, b_y)).1 (tpt K S DX DY (bx, b_y)).2 (tpt K S DX DY (px, py)).1 (tpt K S DX DY (px, py)).2))]
        [[.ini 14], [.frm 0 50], [.frm 1 51], [.ini 14], [.frm 3 53], [.frm 4 54], [.ini 14], [.frm 6 56], [.frm 7 57], [.frm 2 52, .frm 5 55, .frm 8 58], [.frm 9 59], [.frm 10 49], [.frm 10 49], [.frm 11 60], [.frm 12 61]]
        mixed (by kernel_rfl) (by kernel_rfl) (allPre_of ⟨trivial, trivial, trivial, trivial, trivial, trivial, trivial, trivial, trivial, trivial, trivial, trivial, trivial, trivial, trivial, trivial⟩)
        ⟨OpOk.quiet rfl ?_,
          OpOk.quiet rfl ?_,
          OpOk.quiet rfl ?_,
          OpOk.quiet rfl ?_,
          OpOk.quiet rfl ?_,
          OpOk.quiet rfl ?_,
          OpOk.quiet rfl ?_,
          OpOk.quiet rfl ?_,
          OpOk.quiet rfl ?_,
          OpOk.call rfl ?_,
          OpOk.quiet rfl ?_,
          OpOk.quiet rfl ?_,
          OpOk.quiet rfl ?_,
          OpOk.quiet rfl ?_,
          OpOk.quiet rfl ?_, trivial⟩ ?_
      · intro a u _ hf
        simp [facts, Need.fact, Act.eval] at hf
        go_simp
      · intro a u _ hf
        simp [facts, Need.fact, Ent.val, Act.eval] at hf
        go_simp
      · intro a u hG hf
        simp [facts, Need.fact, Ent.val, Act.eval] at hf
        have hc := True.intro
        have y0' := (hG.cell (p := ⟨b5, o5, none⟩) (World.block_lt_of_cell? _ _ y0) (by simp)).trans y0
        have y1' := (hG.cell (p := ⟨b5, o5 + 1, none⟩) (World.block_lt_of_cell? _ _ y1) (by simp)).trans y1
        have y2' := (hG.cell (p := ⟨b5, o5 + 2, none⟩) (World.block_lt_of_cell? _ _ y2) (by simp)).trans y2
        have y3' := (hG.cell (p := ⟨b5, o5 + 2 + 1, none⟩) (World.block_lt_of_cell? _ _ y3) (by simp)).trans y3
        have y4' := (hG.cell (p := ⟨b5, o5 + 4, none⟩) (World.block_lt_of_cell? _ _ y4) (by simp)).trans y4
        have y5' := (hG.cell (p := ⟨b5, o5 + 4 + 1, none⟩) (World.block_lt_of_cell? _ _ y5) (by simp)).trans y5
        go_simp
      · intro a u _ hf
        simp [facts, Need.fact, Act.eval] at hf
        go_simp
      · intro a u _ hf
        simp [facts, Need.fact, Ent.val, Act.eval] at hf
        go_simp
      · intro a u hG hf
        simp [facts, Need.fact, Ent.val, Act.eval] at hf
        have hc := True.intro
        have y0' := (hG.cell (p := ⟨b5, o5, none⟩) (World.block_lt_of_cell? _ _ y0) (by simp)).trans y0
        have y1' := (hG.cell (p := ⟨b5, o5 + 1, none⟩) (World.block_lt_of_cell? _ _ y1) (by simp)).trans y1
        have y2' := (hG.cell (p := ⟨b5, o5 + 2, none⟩) (World.block_lt_of_cell? _ _ y2) (by simp)).trans y2
        have y3' := (hG.cell (p := ⟨b5, o5 + 2 + 1, none⟩) (World.block_lt_of_cell? _ _ y3) (by simp)).trans y3
        have y4' := (hG.cell (p := ⟨b5, o5 + 4, none⟩) (World.block_lt_of_cell? _ _ y4) (by simp)).trans y4
        have y5' := (hG.cell (p := ⟨b5, o5 + 4 + 1, none⟩) (World.block_lt_of_cell? _ _ y5) (by simp)).trans y5
        go_simp
      · intro a u _ hf
        simp [facts, Need.fact, Act.eval] at hf
        go_simp
      · intro a u _ hf
        simp [facts, Need.fact, Ent.val, Act.eval] at hf
        go_simp
      · intro a u hG hf
        simp [facts, Need.fact, Ent.val, Act.eval] at hf
        have hc := True.intro
        have y0' := (hG.cell (p := ⟨b5, o5, none⟩) (World.block_lt_of_cell? _ _ y0) (by simp)).trans y0
        have y1' := (hG.cell (p := ⟨b5, o5 + 1, none⟩) (World.block_lt_of_cell? _ _ y1) (by simp)).trans y1
        have y2' := (hG.cell (p := ⟨b5, o5 + 2, none⟩) (World.block_lt_of_cell? _ _ y2) (by simp)).trans y2
        have y3' := (hG.cell (p := ⟨b5, o5 + 2 + 1, none⟩) (World.block_lt_of_cell? _ _ y3) (by simp)).trans y3
        have y4' := (hG.cell (p := ⟨b5, o5 + 4, none⟩) (World.block_lt_of_cell? _ _ y4) (by simp)).trans y4
        have y5' := (hG.cell (p := ⟨b5, o5 + 4 + 1, none⟩) (World.block_lt_of_cell? _ _ y5) (by simp)).trans y5
        go_simp
      · intro a u _ hf
        simp [facts, Need.fact, Ent.val, Act.eval] at hf
        refine ⟨_, _, by go_simp, (implRay_c _ _ _ _ _ _ hbt _).mono ?_⟩
        rintro e w' ⟨rfl, hb⟩
        exact ⟨_, rfl, hb, rfl⟩
      · intro a u _ hf
        simp [facts, Need.fact, Ent.val, Act.eval] at hf
        go_simp
      · intro a u _ hf
        simp [facts, Need.fact, Ent.val, Act.eval] at hf
        go_simp
      · intro a u _ hf
        simp [facts, Need.fact, Ent.val, Act.eval] at hf
        go_simp
      · intro a u _ hf
        simp [facts, Need.fact, Ent.val, Act.eval] at hf
        go_simp
      · intro a u _ hf
        simp [facts, Need.fact, Ent.val, Act.eval] at hf
        go_simp
      intro u l h wc hK hE hI' hD
      simp [allE, Ent.val] at hE
      obtain ⟨u0, u1, u2, u3, u4, u5, u6, u7, u8, u9, u10, u11, u12, u13, u14⟩ := hE
      simp only [allPut, Act.put, u0, u1, u2, u3, u4, u5, u6, u7, u8, u9, u10, u11, u12, u13, u14]
      clear u0 u1 u2 u3 u4 u5 u6 u7 u8 u9 u10 u11 u12 u13 u14
      have st6 := st5.ext hK.below
      clear st5 c00 c01 c02 c03 c10 c11 c20 c21 c30 c31 y0 y1 y2 y3 y4 y5 hbt hK hI' hD
      have eT := rcOn_tpt K S DX DY (by omega) (ax, ay) (bx, b_y) (px, py)
      rw [eT]
      clear eT
      have c00 := cellAt st6.h0 0
      have c01 := cellAt st6.h0 1
      have c02 := cellAt st6.h0 2
      have c03 := cellAt st6.h0 3
      have c10 := cellAt st6.h1 0
      have c11 := cellAt st6.h1 1
      have c20 := cellAt st6.h2 0
      have c21 := cellAt st6.h2 1
      have c30 := cellAt st6.h3 0
      have c31 := cellAt st6.h3 1
      simp only [List.getElem?_toArray, List.getElem?_cons_zero, List.getElem?_cons_succ] at c00 c01 c02 c03 c10 c11 c20 c21 c30 c31
      have f00 := frozenAt st6.h0 0
      have lt6 : w.heap.size < wc.heap.size := lt_of_some st6.h0
      go_wp2_with (first | (go_at_call 12; refine Stop.out ?_) | (with_reducible refine stop_region ?_))
      refine ⟨?_⟩
      have st7 := st6.kind
      refine (varyTurned_c 0 S DX DY (by omega) (by omega) (by omega) _ hall (by simp) _ _ st7.sl).mono ?_
      rintro e w8 ⟨v8, rfl, sv8, hb⟩
      have st8 := st7.ext hb
      clear hb st7 st6 f00 lt6 c00 c01 c02 c03 c10 c11 c20 c21 c30 c31
      obtain ⟨A8, cp8, rfl, hk8⟩ := sv8
      obtain ⟨b8, o8, hA, x0, x1⟩ := hk8 0 _ rfl
      subst hA
      obtain ⟨b', o', hA, x2, x3⟩ := hk8 1 _ rfl
      cases hA
      obtain ⟨b', o', hA, x4, x5⟩ := hk8 2 _ rfl
      cases hA
      clear hk8
      go_wp2_with (first | (go_at_call 14; refine Stop.out ?_) | (with_reducible refine stop_region ?_))
      refine ⟨?_⟩
      have hbt := tb3 0 S DX DY ⟨by omega, hI.2⟩ hbd.1 hbd.2.1 hbd.2.2
      have y0 : w8.cell? ⟨b8, o8, none⟩ = _ := x0
      have y1 : w8.cell? ⟨b8, o8 + 1, none⟩ = _ := x1
      have y2 : w8.cell? ⟨b8, o8 + 2, none⟩ = _ := x2
      have y3 : w8.cell? ⟨b8, o8 + 2 + 1, none⟩ = _ := x3
      have y4 : w8.cell? ⟨b8, o8 + 4, none⟩ = _ := x4
      have y5 : w8.cell? ⟨b8, o8 + 4 + 1, none⟩ = _ := x5
      clear x0 x1 x2 x3 x4 x5
      refine wp_region_K [] [.val (.slice (some ⟨b8, o8, none⟩) 3 cp8),
          .val (.pointer (some ⟨b8, o8, none⟩)),
          .val (.agg #[.int .i64 (tpt 0 S DX DY (ax, ay)).1, .int .i64 (tpt 0 S DX DY (ax, ay)).2]),
          .val (.slice (some ⟨b8, o8, none⟩) 3 cp8),
          .val (.pointer (some ⟨b8, o8 + 2, none⟩)),
          .val (.agg #[.int .i64 (tpt 0 S DX DY (bx, b_y)).1, .int .i64 (tpt 0 S DX DY (bx, b_y)).2]),
          .val (.slice (some ⟨b8, o8, none⟩) 3 cp8),
          .val (.pointer (some ⟨b8, o8 + 4, none⟩)),
          .val (.agg #[.int .i64 (tpt 0 S DX DY (px, py)).1, .int .i64 (tpt 0 S DX DY (px, py)).2]),
          .val (.tuple #[.bool (rcIn (tpt 0 S DX DY (ax, ay)).1 (tpt 0 S DX DY (ax, ay)).2 (tpt 0 S DX DY (bx, b_y)).1 (tpt 0 S DX DY (bx, b_y)).2 (tpt 0 S DX DY (px, py)).1 (tpt 0 S DX DY (px, py)).2), .bool (rcOn (tpt 0 S DX DY (ax, ay)).1 (tpt 0 S DX DY (ax, ay)).2 (tpt 0 S DX DY (bx, b_y)).1 (tpt 0 S DX DY (bx, b_y)).2 (tpt 0 S DX DY (px, py)).1 (tpt 0 S DX DY (px, py)).2)]),
          .val (.tuple #[.bool (rcIn (tpt 0 S DX DY (ax, ay)).1 (tpt 0 S DX DY (ax, ay)).2 (tpt 0 S DX DY (bx, b_y)).1 (tpt 0 S DX DY (bx, b_y)).2 (tpt 0 S DX DY (px, py)).1 (tpt 0 S DX DY (px, py)).2), .bool (rcOn (tpt 0 S DX DY (ax, ay)).1 (tpt 0 S DX DY (ax, ay)).2 (tpt 0 S DX DY (bx, b_y)).1 (tpt 0 S DX DY (bx, b_y)).2 (tpt 0 S DX DY (px, py)).1 (tpt 0 S DX DY (px, py)).2)]),
          .val (.bool (rcIn (tpt 0 S DX DY (ax, ay)).1 (tpt 0 S DX DY (ax, ay)).2 (tpt 0 S DX DY (bx, b_y)).1 (tpt 0 S DX DY (bx, b_y)).2 (tpt 0 S DX DY (px, py)).1 (tpt 0 S DX DY (px, py)).2)),
          .val (.bool (rcOn (tpt 0 S DX DY (ax, ay)).1 (tpt 0 S DX DY (ax, ay)).2 (tpt 0 S DX DY (bx, b_y)).1 (tpt 0 S DX DY (bx, b_y)).2 (tpt 0 S DX DY (px, py)).1 (tpt 0 S DX DY (px, py)).2)),
          .val (.bool (rcIn (tpt 0 S DX DY (ax, ay)).1 (tpt 0 S DX DY (ax, ay)).2 (tpt 0 S DX DY (bx, b_y)).1 (tpt 0 S DX DY (bx, b_y)).2 (tpt 0 S DX DY (px, py)).1 (tpt 0 S DX DY (px, py)).2)),
          .val (.bool (rcOn (tpt 0 S DX DY (ax, ay)).1 (tpt 0 S DX DY (ax, ay)).2 (tpt 0 S DX DY (bx, b_y)).1 (tpt 0 S DX DY (bx, b_y)).2 (tpt 0 S DX DY (px, py)).1 (tpt 0 S DX DY (px, py)).2))]
        [[.ini 14], [.frm 0 67], [.frm 1 68], [.ini 14], [.frm 3 70], [.frm 4 71], [.ini 14], [.frm 6 73], [.frm 7 74], [.frm 2 69, .frm 5 72, .frm 8 75], [.frm 9 76], [.frm 10 66], [.frm 10 66], [.frm 11 77], [.frm 12 78]]
        mixed (by kernel_rfl) (by kernel_rfl) (allPre_of ⟨trivial, trivial, trivial, trivial, trivial, trivial, trivial, trivial, trivial, trivial, trivial, trivial, trivial, trivial, trivial, trivial⟩)
        ⟨OpOk.quiet rfl ?_,
          OpOk.quiet rfl ?_,
          OpOk.quiet rfl ?_,
          OpOk.quiet rfl ?_,
          OpOk.quiet rfl ?_,
          OpOk.quiet rfl ?_,
          OpOk.quiet rfl ?_,
          OpOk.quiet rfl ?_,
          OpOk.quiet rfl ?_,
          OpOk.call rfl ?_,
          OpOk.quiet rfl ?_,
          OpOk.quiet rfl ?_,
          OpOk.quiet rfl ?_,
          OpOk.quiet rfl ?_,
          OpOk.quiet rfl ?_, trivial⟩ ?_
      · intro a u _ hf
        simp [facts, Need.fact, Act.eval] at hf
        go_simp
      · intro a u _ hf
        simp [facts, Need.fact, Ent.val, Act.eval] at hf
        go_simp
      · intro a u hG hf
        simp [facts, Need.fact, Ent.val, Act.eval] at hf
        have hc := True.intro
        have y0' := (hG.cell (p := ⟨b8, o8, none⟩) (World.block_lt_of_cell? _ _ y0) (by simp)).trans y0
        have y1' := (hG.cell (p := ⟨b8, o8 + 1, none⟩) (World.block_lt_of_cell? _ _ y1) (by simp)).trans y1
        have y2' := (hG.cell (p := ⟨b8, o8 + 2, none⟩) (World.block_lt_of_cell? _ _ y2) (by simp)).trans y2
        have y3' := (hG.cell (p := ⟨b8, o8 + 2 + 1, none⟩) (World.block_lt_of_cell? _ _ y3) (by simp)).trans y3
        have y4' := (hG.cell (p := ⟨b8, o8 + 4, none⟩) (World.block_lt_of_cell? _ _ y4) (by simp)).trans y4
        have y5' := (hG.cell (p := ⟨b8, o8 + 4 + 1, none⟩) (World.block_lt_of_cell? _ _ y5) (by simp)).trans y5
        go_simp
      · intro a u _ hf
        simp [facts, Need.fact, Act.eval] at hf
        go_simp
      · intro a u _ hf
        simp [facts, Need.fact, Ent.val, Act.eval] at hf
        go_simp
      · intro a u hG hf
        simp [facts, Need.fact, Ent.val, Act.eval] at hf
        have hc := True.intro
        have y0' := (hG.cell (p := ⟨b8, o8, none⟩) (World.block_lt_of_cell? _ _ y0) (by simp)).trans y0
        have y1' := (hG.cell (p := ⟨b8, o8 + 1, none⟩) (World.block_lt_of_cell? _ _ y1) (by simp)).trans y1
        have y2' := (hG.cell (p := ⟨b8, o8 + 2, none⟩) (World.block_lt_of_cell? _ _ y2) (by simp)).trans y2
        have y3' := (hG.cell (p := ⟨b8, o8 + 2 + 1, none⟩) (World.block_lt_of_cell? _ _ y3) (by simp)).trans y3
        have y4' := (hG.cell (p := ⟨b8, o8 + 4, none⟩) (World.block_lt_of_cell? _ _ y4) (by simp)).trans y4
        have y5' := (hG.cell (p := ⟨b8, o8 + 4 + 1, none⟩) (World.block_lt_of_cell? _ _ y5) (by simp)).trans y5
        go_simp
      · intro a u _ hf
        simp [facts, Need.fact, Act.eval] at hf
        go_simp
      · intro a u _ hf
        simp [facts, Need.fact, Ent.val, Act.eval] at hf
        go_simp
      · intro a u hG hf
        simp [facts, Need.fact, Ent.val, Act.eval] at hf
        have hc := True.intro
        have y0' := (hG.cell (p := ⟨b8, o8, none⟩) (World.block_lt_of_cell? _ _ y0) (by simp)).trans y0
        have y1' := (hG.cell (p := ⟨b8, o8 + 1, none⟩) (World.block_lt_of_cell? _ _ y1) (by simp)).trans y1
        have y2' := (hG.cell (p := ⟨b8, o8 + 2, none⟩) (World.block_lt_of_cell? _ _ y2) (by simp)).trans y2
        have y3' := (hG.cell (p := ⟨b8, o8 + 2 + 1, none⟩) (World.block_lt_of_cell? _ _ y3) (by simp)).trans y3
        have y4' := (hG.cell (p := ⟨b8, o8 + 4, none⟩) (World.block_lt_of_cell? _ _ y4) (by simp)).trans y4
        have y5' := (hG.cell (p := ⟨b8, o8 + 4 + 1, none⟩) (World.block_lt_of_cell? _ _ y5) (by simp)).trans y5
        go_simp
      · intro a u _ hf
        simp [facts, Need.fact, Ent.val, Act.eval] at hf
        refine ⟨_, _, by go_simp, (implRay_c _ _ _ _ _ _ hbt _).mono ?_⟩
        rintro e w' ⟨rfl, hb⟩
        exact ⟨_, rfl, hb, rfl⟩
      · intro a u _ hf
        simp [facts, Need.fact, Ent.val, Act.eval] at hf
        go_simp
      · intro a u _ hf
        simp [facts, Need.fact, Ent.val, Act.eval] at hf
        go_simp
      · intro a u _ hf
        simp [facts, Need.fact, Ent.val, Act.eval] at hf
        go_simp
      · intro a u _ hf
        simp [facts, Need.fact, Ent.val, Act.eval] at hf
        go_simp
      · intro a u _ hf
        simp [facts, Need.fact, Ent.val, Act.eval] at hf
        go_simp
      intro u l h wd hK hE hI' hD
      simp [allE, Ent.val] at hE
      obtain ⟨u0, u1, u2, u3, u4, u5, u6, u7, u8, u9, u10, u11, u12, u13, u14⟩ := hE
      simp only [allPut, Act.put, u0, u1, u2, u3, u4, u5, u6, u7, u8, u9, u10, u11, u12, u13, u14]
      clear u0 u1 u2 u3 u4 u5 u6 u7 u8 u9 u10 u11 u12 u13 u14
      have eT := rcOn_tpt 0 S DX DY (by omega) (ax, ay) (bx, b_y) (px, py)
      have eI := rcIn_tpt0 S DX DY (by omega) (ax, ay) (bx, b_y) (px, py)
      rw [eT, eI]
      clear eT eI
      have st9 := st8.ext hK.below
      clear st8 y0 y1 y2 y3 y4 y5 hbt hK hI' hall hbd
      generalize rcIn (ax, ay).1 (ax, ay).2 (bx, b_y).1 (bx, b_y).2 (px, py).1 (px, py).2 = RI
      generalize rcOn (ax, ay).1 (ax, ay).2 (bx, b_y).1 (bx, b_y).2 (px, py).1 (px, py).2 = RO
      go_wp2_with (go_at_call 9; refine Stop.out ?_)
      refine ⟨?_⟩
      refine (awake_c _).mono ?_
      rintro e w9 ⟨rfl, hb⟩
      go_wp2
      go_ret
      exact ⟨rfl, st9.hb.trans (hb.mono st9.hb.size)⟩
  · rw [decide_eq_false hI]
    go_wp2_with (first | (go_at_call 8; refine Stop.out ?_) | (go_at_call 9; refine Stop.out ?_) | (with_reducible refine stop_region ?_))
    refine ⟨?_⟩
    refine (awake_c _).mono ?_
    rintro e w2 ⟨rfl, hb⟩
    go_wp2
    go_ret
    exact ⟨rfl, st1.hb.trans (hb.mono st1.hb.size)⟩
end Go.Proofs.Ytkaoldmdikljiaa
