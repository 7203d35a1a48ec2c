import Derived.Test.YtbfanhdofopnnaaGreatSr
import Derived.Test.YtbfanhdofopnnaaGreatBlk
set_option linter.unusedSimpArgs false
set_option linter.unusedVariables false
namespace PF
open Go
structure Stop0 (p : Prop) : Prop where out : p
theorem retB0 {b c : Bool} {P : Prop} [Decidable P] (h : decide P = c) (h2 : b = true ↔ P) : Ending.returned (.bool b) = .returned (.bool c) := by
  subst h; congr 2; cases b <;> simp_all
end PF
namespace Go.Proofs.YtbfanhdofopnnaaGreat
open Go.RowKit PF JR

theorem eqZ_c {x : Nat} {n : Int} (hx : Rep x n) (w : World) : Calls Tryz.prog 69 #[fl x] w fun e w' => e = .returned (.bool (decide (n = 0))) ∧ w' = w := by
  have o := oR hx rep0
  generalize hAns : decide (n = 0) = ans
  go_enter Tryz.func69, Tryz.ntmps69
  go_wp2
  all_goals
    go_ret
    exact ⟨retB0 hAns (by simp; omega), rfl⟩

/-- on which side of the line from a to b the point p is -/
def _root_.PF.side (ax ay bx b_y px py : Int) : Int := (bx - ax) * (py - ay) - (b_y - ay) * (px - ax)


set_option maxHeartbeats 400000 in
theorem corn_c {x0 y0 x1 y1 : Nat} {X0 Y0 X1 Y1 : Int} (h1 : Rep x0 X0) (h2 : Rep y0 Y0) (h3 : Rep x1 X1) (h4 : Rep y1 Y1)
    (fr : ∀ {px py : Nat} {PX PY : Int}, Rep px PX → Rep py PY → ∀ w : World, Calls Tryz.prog 41 #[.agg #[fl px, fl py]] w fun e w' => e = .returned (.agg #[.int .i64 PX, .int .i64 PY]) ∧ Below w.heap.size w w') (w : World) :
    Calls Tryz.prog 40 #[.agg #[fl x0, fl y0, fl x1, fl y1]] w fun e w' => e = .returned (.agg #[.int .i64 X0, .int .i64 Y0, .int .i64 X1, .int .i64 Y1]) ∧ Below w.heap.size w w' := by
  go_enter Tryz.func40, Tryz.ntmps40
  go_wp2
  refine wp_region_K [w.heap.size + 1] [.val (.pointer (some ⟨w.heap.size, 0, none⟩)),
      .val (.agg #[fl x0, fl y0]),
      .val (.agg #[.int .i64 X0, .int .i64 Y0]),
      .val (.pointer (some ⟨w.heap.size, 2, none⟩)),
      .val (.agg #[fl x1, fl y1]),
      .val (.agg #[.int .i64 X1, .int .i64 Y1]),
      .val (.agg #[.int .i64 X0, .int .i64 Y0, .int .i64 X1, .int .i64 Y1]),
      .turn (w.heap.size + 1) #[.int .i64 0, .int .i64 0, .int .i64 0, .int .i64 0] (· = #[.int .i64 X0, .int .i64 Y0, .int .i64 X1, .int .i64 Y1]) 49]
    [[.ini 1], [.frm 0 3], [.frm 1 4], [.ini 1], [.frm 3 6], [.frm 4 7], [.frm 2 5, .frm 5 8], [.ini 2, .frm 6 9, .til 7]]
    mixed (by kernel_rfl) (by kernel_rfl) (allPre_of ⟨trivial, trivial, trivial, trivial, trivial, trivial, trivial, allocAt (by simp), trivial⟩)
    ⟨OpOk.quiet rfl ?_,
      OpOk.quiet rfl ?_,
      OpOk.call rfl ?_,
      OpOk.quiet rfl ?_,
      OpOk.quiet rfl ?_,
      OpOk.call rfl ?_,
      OpOk.quiet rfl ?_,
      OpOk.turnRow rfl rfl (by simp) (by kernel_rfl) (oldFree_of ⟨.inr ((fun h => (nomatch h))), .inr ((fun h => (nomatch h))), .inr ((fun h => (nomatch h))), .inr ((fun h => (nomatch h))), .inr ((fun h => (nomatch h))), .inr ((fun h => (nomatch h))), .inr ((fun h => (nomatch h))), .inl rfl, trivial⟩) (by kernel_rfl) rfl (by simp [Value.oneCell']) (fun a w _ hf => ⟨hf.1, hf.2.1.elim fun _ h => h.elim fun _ h => h, hf.2.2.1⟩) (fun _ _ h => Keep.setRow h (.inr (by simp))), trivial⟩ ?_
  · intro a u _ hf
    simp [facts, Need.fact, Act.eval] at hf
    go_simp
  · intro a u hG hf
    simp [facts, Need.fact, Ent.val, Act.eval] at hf
    have hc := fun (b o : Nat) (h : b < w.heap.size + 1) => hG.cell (p := ⟨b, o, none⟩) (by simp; omega) (by simp; omega)
    go_simp
  · intro a u _ hf
    simp [facts, Need.fact, Ent.val, Act.eval] at hf
    refine ⟨_, _, by go_simp, (fr h1 h2 _).mono ?_⟩
    rintro e w' ⟨rfl, hb⟩
    exact ⟨_, rfl, hb, rfl⟩
  · intro a u _ hf
    simp [facts, Need.fact, Act.eval] at hf
    go_simp
  · intro a u hG hf
    simp [facts, Need.fact, Ent.val, Act.eval] at hf
    have hc := fun (b o : Nat) (h : b < w.heap.size + 1) => hG.cell (p := ⟨b, o, none⟩) (by simp; omega) (by simp; omega)
    go_simp
  · intro a u _ hf
    simp [facts, Need.fact, Ent.val, Act.eval] at hf
    refine ⟨_, _, by go_simp, (fr h3 h4 _).mono ?_⟩
    rintro e w' ⟨rfl, hb⟩
    exact ⟨_, rfl, hb, rfl⟩
  · intro a u _ hf
    simp [facts, Need.fact, Ent.val, Act.eval] at hf
    go_simp
  intro u l h wc hK hE hI hD
  simp [allE, Ent.turn, Ent.val] at hE
  obtain ⟨u0, u1, u2, u3, u4, u5, u6, g7⟩ := hE
  simp only [allPut, Act.put, u0, u1, u2, u3, u4, u5, u6]
  clear u0 u1 u2 u3 u4 u5 u6
  have q0 := cellAt g7 0
  have q1 := cellAt g7 1
  have q2 := cellAt g7 2
  have q3 := cellAt g7 3
  simp only [List.getElem?_toArray, List.getElem?_cons_zero, List.getElem?_cons_succ] at q0 q1 q2 q3
  have hB := Keep.belowX (B := w.heap.size) hK (((Below.refl _ _).alloc (Nat.le_refl _) _).alloc (by simp) _) (by simp; omega) (by simp)
  clear hK hI hD g7
  go_wp2
  exact bodyPost_ret (v := .agg #[.int .i64 X0, .int .i64 Y0, .int .i64 X1, .int .i64 Y1]) (by simp [results, Tryz.results40, go_sem, q0, q1, q2, q3]) rfl ⟨rfl, hB⟩


/-- two segments lie on one line, or one is a point -/
def _root_.PF.ovl (Ax Ay Bx By Cx Cy Dx Dy : Int) : Bool :=
  (decide (side Ax Ay Bx By Cx Cy = 0) && decide (side Ax Ay Bx By Dx Dy = 0)) || (decide (side Cx Cy Dx Dy Ax Ay = 0) && decide (side Cx Cy Dx Dy Bx By = 0))

end Go.Proofs.YtbfanhdofopnnaaGreat
