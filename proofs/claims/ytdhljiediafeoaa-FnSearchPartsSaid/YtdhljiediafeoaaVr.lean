import Derived.Test.YtdhljiediafeoaaVn
import Derived.Test.YtdhljiediafeoaaRa
import Derived.Test.YtdhljiediafeoaaBlk
set_option linter.unusedSimpArgs false
set_option linter.unusedVariables false
namespace PF
open Go Go.RowKit
theorem max2_int (k k' : IntKind) (x y : Int) : Builtin.max2 (.int k x) (.int k' y) = pure (.int k (max x y)) := by
  simp only [Builtin.max2, gt_iff_lt]; rw [show (if x < y then y else x) = max x y from by split <;> omega]
theorem min2_int (k k' : IntKind) (x y : Int) : Builtin.min2 (.int k x) (.int k' y) = pure (.int k (min x y)) := by
  simp only [Builtin.min2]; rw [show (if y < x then y else x) = min x y from by split <;> omega]
theorem max_two (ats : Array TypeId) (ty : TypeId) (a b : Value) : Builtin.max_ ats ty #[a, b] = (Builtin.max2 a b >>= fun s => pure s) := by simp only [Builtin.max_, List.foldlM_cons, List.foldlM_nil]
theorem min_two (ats : Array TypeId) (ty : TypeId) (a b : Value) : Builtin.min_ ats ty #[a, b] = (Builtin.min2 a b >>= fun s => pure s) := by simp only [Builtin.min_, List.foldlM_cons, List.foldlM_nil]
/-- the least rectangle around points, begun with a rectangle -/
def bxs (l : List (Int × Int)) (b : Int × Int × Int × Int) : Int × Int × Int × Int :=
  l.foldl (fun b p => (min b.1 p.1, min b.2.1 p.2, max b.2.2.1 p.1, max b.2.2.2 p.2)) b
theorem bxs_snoc (l : List (Int × Int)) (b : Int × Int × Int × Int) (k : Nat) (p : Int × Int) (h : l[k]? = some p) :
    bxs (l.take (k + 1)) b = (min (bxs (l.take k) b).1 p.1, min (bxs (l.take k) b).2.1 p.2, max (bxs (l.take k) b).2.2.1 p.1, max (bxs (l.take k) b).2.2.2 p.2) := by
  rw [List.take_add_one, h]
  simp [bxs, List.foldl_append]
end PF
namespace Go.Proofs.Ytdhljiediafeoaa
open Go.RowKit PF JR
attribute [local go_sem] PF.max2_int PF.min2_int PF.max_two PF.min_two

theorem _root_.PF.Blk.slp2 {w u : World} {L : List (Nat × Array Value × TypeId)} (h : Blk w u L) (i : Nat) {b : Nat} {T : TypeId} {X0 Y0 X1 Y1 : Int} (hi : L[i]? = some (b, #[.int .i64 X0, .int .i64 Y0, .int .i64 X1, .int .i64 Y1], T)) : SlP u (.slice (some ⟨b, 0, none⟩) 2 2) [(X0, Y0), (X1, Y1)] := by
  have c := fun o => h.cell i hi o
  refine ⟨_, 2, rfl, fun k p hp => ⟨_, 0, rfl, ?_⟩⟩
  match k, hp with
  | 0, hp => cases hp; exact ⟨c 0, c 1⟩
  | 1, hp => cases hp; exact ⟨c 2, c 3⟩

set_option maxHeartbeats 1000000 in
theorem isVary_c (v : Value) (X0 Y0 X1 Y1 : Int) (w : World) (hv : SlP w v [(X0, Y0), (X1, Y1)]) :
    Calls Try.prog 5 #[.agg #[.int .i64 1, v, .slice none 0 0]] w fun e w' => e = .returned (.bool (okP (X0, Y0) && okP (X1, Y1) && decide (X0 < X1) && decide (Y0 < Y1))) ∧ Below w.heap.size w w' := by
  have hv0 := hv
  obtain ⟨A, c, rfl, hk⟩ := hv
  obtain ⟨b, off, rfl, h1, h2⟩ := hk 0 _ rfl
  obtain ⟨b', off', hA, h3, h4⟩ := hk 1 _ rfl
  cases hA
  clear hk
  generalize hAns : (okP (X0, Y0) && okP (X1, Y1) && decide (X0 < X1) && decide (Y0 < Y1)) = ans
  go_enter Try.func5, Try.ntmps5
  have st0 := (Blk.nil w).push rfl #[.int .i64 1, .slice (some ⟨b, off, none⟩) [(X0, Y0), (X1, Y1)].length c, .slice none 0 0] 32
  have s0 := hv0.below st0.hb
  go_wp2_with (first | (go_at_call 10; refine Stop.out ?_) | (go_at_call 9; refine Stop.out ?_))
  refine ⟨?_⟩
  refine (varyOf_c [(X0, Y0), (X1, Y1)] (by simp) _ _ s0).mono ?_
  rintro e w1 ⟨v1, rfl, sv1, hb⟩
  have st1 := st0.ext hb
  clear hb
  go_wp2_with (first | (go_at_call 10; refine Stop.out ?_) | (go_at_call 9; refine Stop.out ?_))
  refine ⟨?_⟩
  refine (isVaryP_c [(X0, Y0), (X1, Y1)] (by simp) _ _ sv1).mono ?_
  rintro e w2 ⟨rfl, hb⟩
  have st2 := st1.ext hb
  clear hb st0 st1 sv1 s0
  have c0 := st2.cell 0 rfl 0
  have c1 := st2.cell 0 rfl 1
  have c2 := st2.cell 0 rfl 2
  simp only [List.getElem?_toArray, List.getElem?_cons_zero, List.getElem?_cons_succ] at c0 c1 c2
  have g1 := (st2.hb.cell (World.block_lt_of_cell? w _ h1)).trans h1
  have g2 := (st2.hb.cell (World.block_lt_of_cell? w _ h2)).trans h2
  have g3 := (st2.hb.cell (World.block_lt_of_cell? w _ h3)).trans h3
  have g4 := (st2.hb.cell (World.block_lt_of_cell? w _ h4)).trans h4
  have hB := st2.hb
  clear h1 h2 h3 h4 st2 hv0
  simp only [Nat.zero_mul, Nat.one_mul, Nat.add_zero, List.length_cons, List.length_nil, Nat.zero_add, Nat.reduceAdd] at g1 g2 g3 g4 c1
  have e2 : ([(X0, Y0), (X1, Y1)] : List (Int × Int)).all okP = (okP (X0, Y0) && okP (X1, Y1)) := by simp
  rw [e2]
  clear e2
  generalize (okP (X0, Y0) && okP (X1, Y1)) = ok at *
  cases ok with
  | false =>
    go_wp2
    go_ret
    exact ⟨by rw [← hAns]; rfl, hB⟩
  | true =>
    have hans : ans = (decide (X0 < X1) && decide (Y0 < Y1)) := by rw [← hAns]; simp
    clear hAns
    go_wp2
    refine wp_loop_rounds 1 ?_
    rw [rounds_succ]
    go_wp2
    by_cases p1 : X0 < X1
    · by_cases p2 : Y0 < Y1
      · have d1 := decide_eq_true p1
        have d2 := decide_eq_true p2
        rw [d1, d2] at hans
        go_quiet (fail)
        go_wp2
        go_ret
        exact ⟨by first | rfl | (rw [hans]; rfl), below_drewN hB _⟩
      · have d1 := decide_eq_true p1
        have d2 := decide_eq_false p2
        rw [d1, d2] at hans
        go_quiet (fail)
        go_wp2
        go_ret
        exact ⟨by first | rfl | (rw [hans]; rfl), below_drewN hB _⟩
    · have d1 := decide_eq_false p1
      rw [d1] at hans
      go_quiet (fail)
      go_wp2
      go_ret
      exact ⟨by first | rfl | (rw [hans]; rfl), below_drewN hB _⟩
end Go.Proofs.Ytdhljiediafeoaa
