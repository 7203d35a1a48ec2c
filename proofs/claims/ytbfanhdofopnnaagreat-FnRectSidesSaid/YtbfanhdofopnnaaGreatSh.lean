import Derived.Test.YtbfanhdofopnnaaGreatSg
import Derived.Test.YtbfanhdofopnnaaGreatRect
import Derived.Test.YtbfanhdofopnnaaGreatRay
set_option linter.unusedSimpArgs false
set_option linter.unusedVariables false
namespace Go.Proofs.YtbfanhdofopnnaaGreat
open Go.RowKit PF JR

theorem fieldOn (x y : Value) (w : World) : (Instr.field 125 (.agg #[x, y]) 1).run Tryz.prog w = .ok y w := by kernel_rfl

theorem scp_c {ax ay bx bY px py : Nat} {Ax Ay Bx By Px Py : Int} (hax : Rep ax Ax) (hay : Rep ay Ay) (hbx : Rep bx Bx) (hby : Rep bY By) (hpx : Rep px Px) (hpy : Rep py Py)
    (b1 : -16384 ≤ Ax ∧ Ax ≤ 16384 ∧ -16384 ≤ Ay ∧ Ay ≤ 16384 ∧ -16384 ≤ Bx ∧ Bx ≤ 16384 ∧ -16384 ≤ By ∧ By ≤ 16384 ∧ -16384 ≤ Px ∧ Px ≤ 16384 ∧ -16384 ≤ Py ∧ Py ≤ 16384) (w : World) :
    Calls Tryz.prog 57 #[.agg #[fl ax, fl ay, fl bx, fl bY], .agg #[fl px, fl py]] w fun e w' => e = .returned (.bool (rcOn Ax Ay Bx By Px Py)) ∧ Below w.heap.size w w' := by
  have hfo := fieldOn
  go_enter Tryz.func57, Tryz.ntmps57
  go_wp2_with (go_at_call 68; refine (raycast_c hax hay hbx hby hpx hpy b1 _).mono ?_; rintro e w' ⟨rfl, hb⟩)
  go_ret
  exact ⟨rfl, (((Below.refl _ _).alloc (Nat.le_refl _) _).alloc (by simp) _).trans (hb.mono (by simp; omega))⟩

set_option maxHeartbeats 800000 in
theorem scs_c {ax ay bx bY cx cy dx dy : Nat} {Ax Ay Bx By Cx Cy Dx Dy : Int} (hax : Rep ax Ax) (hay : Rep ay Ay) (hbx : Rep bx Bx) (hby : Rep bY By) (hcx : Rep cx Cx) (hcy : Rep cy Cy) (hdx : Rep dx Dx) (hdy : Rep dy Dy)
    (b1 : -16384 ≤ Ax ∧ Ax ≤ 16384 ∧ -16384 ≤ Ay ∧ Ay ≤ 16384 ∧ -16384 ≤ Bx ∧ Bx ≤ 16384 ∧ -16384 ≤ By ∧ By ≤ 16384) (b2 : -16384 ≤ Cx ∧ Cx ≤ 16384 ∧ -16384 ≤ Cy ∧ Cy ≤ 16384 ∧ -16384 ≤ Dx ∧ Dx ≤ 16384 ∧ -16384 ≤ Dy ∧ Dy ≤ 16384) (w : World) :
    Calls Tryz.prog 59 #[.agg #[fl ax, fl ay, fl bx, fl bY], .agg #[fl cx, fl cy, fl dx, fl dy]] w fun e w' => e = .returned (.bool (rcOn Ax Ay Bx By Cx Cy && rcOn Ax Ay Bx By Dx Dy)) ∧ Below w.heap.size w w' := by
  have s1 := fun w => raycast_c hax hay hbx hby hcx hcy (by omega) w
  have s2 := fun w => raycast_c hax hay hbx hby hdx hdy (by omega) w
  generalize rcOn Ax Ay Bx By Cx Cy = o1 at *
  generalize rcOn Ax Ay Bx By Dx Dy = o2 at *
  have st0 := ((Blk.nil w).push rfl #[fl ax, fl ay, fl bx, fl bY] 100).push (b := w.heap.size + 1) (by simp) #[fl cx, fl cy, fl dx, fl dy] 100
  have hfo := fieldOn
  go_enter Tryz.func59, Tryz.ntmps59
  go_wp2_with (go_at_call 68; refine PF.Stop0.out ?_)
  refine ⟨?_⟩
  refine (s1 _).mono ?_
  rintro e w1 ⟨rfl, hb⟩
  have st1 := st0.ext hb
  clear hb st0
  cases o1 with
  | false =>
    go_wp2
    go_ret
    exact ⟨rfl, st1.hb⟩
  | true =>
    have a0 := st1.cell 1 rfl 0
    have a1 := st1.cell 1 rfl 1
    have a2 := st1.cell 1 rfl 2
    have a3 := st1.cell 1 rfl 3
    have c0 := st1.cell 0 rfl 0
    have c1 := st1.cell 0 rfl 1
    have c2 := st1.cell 0 rfl 2
    have c3 := st1.cell 0 rfl 3
    simp only [List.getElem?_toArray, List.getElem?_cons_zero, List.getElem?_cons_succ] at a0 a1 a2 a3 c0 c1 c2 c3
    go_wp2_with (go_at_call 68; refine PF.Stop0.out ?_)
    refine ⟨?_⟩
    refine (s2 _).mono ?_
    rintro e w2 ⟨rfl, hb⟩
    have st2 := st1.ext hb
    clear hb st1 a0 a1 a2 a3 c0 c1 c2 c3
    go_wp2
    go_ret
    exact ⟨by cases o2 <;> rfl, st2.hb⟩
end Go.Proofs.YtbfanhdofopnnaaGreat
