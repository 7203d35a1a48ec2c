import Derived.Test.YtlpibeloedfbdaaGreatQP
import Derived.Test.YtlpibeloedfbdaaGreatSh
set_option linter.unusedSimpArgs false
set_option linter.unusedVariables false
namespace Go.Proofs.YtlpibeloedfbdaaGreat
open Go.RowKit PF JR

theorem _root_.PF.Blk.drewN {w u : World} {L : List (Nat × Array Value × TypeId)} (h : Blk w u L) (n : Nat) : Blk w (u.drewN n) L := ⟨h.known, below_drewN h.hb n⟩
theorem _root_.PF.bmul2 {a b : Int} (ha : -24576 ≤ a ∧ a ≤ 24576) (hb : -24576 ≤ b ∧ b ≤ 24576) : -603979776 ≤ a * b ∧ a * b ≤ 603979776 := by
  have h1 : (a * b).natAbs ≤ 24576 * 24576 := by
    rw [Int.natAbs_mul]; exact Nat.mul_le_mul (by omega) (by omega)
  omega
theorem _root_.PF.rep1 : Rep 4607182418800017408 1 := rM 1 (by decide) 4607182418800017408 (by decide +kernel)
theorem _root_.PF.id_n {Ax Ay Bx By Cx Cy : Int} : (Cx - Ax) * (By - Ay) - (Cy - Ay) * (Bx - Ax) = -side Ax Ay Bx By Cx Cy := by unfold side; grind
theorem _root_.PF.id_s {Ax Ay Cx Cy Dx Dy : Int} : (Cx - Ax) * (Dy - Cy) - (Cy - Ay) * (Dx - Cx) = side Cx Cy Dx Dy Ax Ay := by unfold side; grind
theorem _root_.PF.id_m {Ax Ay Bx By Cx Cy Dx Dy : Int} : (Bx - Ax) * (Dy - Cy) - (By - Ay) * (Dx - Cx) = side Ax Ay Bx By Dx Dy - side Ax Ay Bx By Cx Cy := by unfold side; grind
theorem rcp_geq {x z : Nat} {n m : Int} (h : Rcp x n m) (hz : Rep z 0) (hm : m ≠ 0) (hmb : m.natAbs < 2147483648) (hnb : n.natAbs < 2147483648) {b : Bool} (hb : decide (0 ≤ n * m) = b) :
    (FloatKind.f64.format.order x z == some .gt || FloatKind.f64.format.order x z == some .eq) = b := by
  have g := h.ge_zero hz hm hmb hnb
  subst hb
  rw [Bool.eq_iff_iff, decide_eq_true_iff, ← g, Bool.or_eq_true, beq_iff_eq, beq_iff_eq]
  rfl
theorem rcp_leq {x z : Nat} {n m : Int} (h : Rcp x n m) (hz : Rep z 1) (hm : m ≠ 0) (hmb : m.natAbs < 2147483648) (hnb : n.natAbs < 2147483648) {b : Bool} (hb : decide (n * m ≤ m * m) = b) :
    (FloatKind.f64.format.order x z == some .lt || FloatKind.f64.format.order x z == some .eq) = b := by
  have g := h.le_one hz hm hmb hnb
  subst hb
  rw [Bool.eq_iff_iff, decide_eq_true_iff, ← g, Bool.or_eq_true, beq_iff_eq, beq_iff_eq]
  rfl
theorem rep_leq {x : Nat} {n : Int} (h : Rep x n) {b : Bool} (hb : decide (n ≤ 0) = b) :
    (FloatKind.f64.format.order x 0 == some .lt || FloatKind.f64.format.order x 0 == some .eq) = b := by
  rw [oR h rep0]
  subst hb
  rw [Bool.eq_iff_iff, decide_eq_true_iff]
  simp [Bool.or_eq_true, icmp_lt, icmp_gt]
  omega
theorem eqPt {a1 a2 c1 c2 : Nat} {A1 A2 C1 C2 : Int} (h1 : Rep a1 A1) (h2 : Rep a2 A2) (h3 : Rep c1 C1) (h4 : Rep c2 C2) {b : Bool} (hb : decide (A1 = C1 ∧ A2 = C2) = b) (u : World) :
    (binOp .eql 50 (.agg #[fl a1, fl a2]) (.agg #[fl c1, fl c2])).run Tryz.prog u = .ok (.bool b) u := by
  have o1 := oR h1 h3
  have o2 := oR h2 h4
  subst hb
  by_cases e1 : A1 = C1 <;> by_cases e2 : A2 = C2 <;> simp [go_sem, o1, o2, e1, e2]
/-- what IntersectsSegment says of two segments -/
def _root_.PF.sx (Ax Ay Bx By Cx Cy Dx Dy : Int) : Bool :=
  if (Ay < Cy ∧ Ay < Dy ∧ By < Cy ∧ By < Dy) ∨ (Cy < Ay ∧ Cy < By ∧ Dy < Ay ∧ Dy < By) then false
  else if (Ax < Cx ∧ Ax < Dx ∧ Bx < Cx ∧ Bx < Dx) ∨ (Cx < Ax ∧ Cx < Bx ∧ Dx < Ax ∧ Dx < Bx) then false
  else if (Ax = Cx ∧ Ay = Cy) ∨ (Ax = Dx ∧ Ay = Dy) ∨ (Bx = Cx ∧ By = Cy) ∨ (Bx = Dx ∧ By = Dy) then true
  else if side Ax Ay Bx By Cx Cy = 0 then rcOn Ax Ay Bx By Cx Cy || rcOn Ax Ay Bx By Dx Dy
  else meets Ax Ay Bx By Cx Cy Dx Dy
section
variable {Ax Ay Bx By Cx Cy Dx Dy : Int}
theorem sx_y (hy : ((Ay < Cy ∧ Ay < Dy ∧ By < Cy ∧ By < Dy) ∨ (Cy < Ay ∧ Cy < By ∧ Dy < Ay ∧ Dy < By))) : sx Ax Ay Bx By Cx Cy Dx Dy = false := by
  unfold sx; rw [if_pos hy]
theorem sx_x (hx : ((Ax < Cx ∧ Ax < Dx ∧ Bx < Cx ∧ Bx < Dx) ∨ (Cx < Ax ∧ Cx < Bx ∧ Dx < Ax ∧ Dx < Bx))) : sx Ax Ay Bx By Cx Cy Dx Dy = false := by
  unfold sx; rw [if_pos hx]; split <;> rfl
theorem sx_e (hy : ¬ ((Ay < Cy ∧ Ay < Dy ∧ By < Cy ∧ By < Dy) ∨ (Cy < Ay ∧ Cy < By ∧ Dy < Ay ∧ Dy < By))) (hx : ¬ ((Ax < Cx ∧ Ax < Dx ∧ Bx < Cx ∧ Bx < Dx) ∨ (Cx < Ax ∧ Cx < Bx ∧ Dx < Ax ∧ Dx < Bx))) (hE : ((Ax = Cx ∧ Ay = Cy) ∨ (Ax = Dx ∧ Ay = Dy) ∨ (Bx = Cx ∧ By = Cy) ∨ (Bx = Dx ∧ By = Dy))) : sx Ax Ay Bx By Cx Cy Dx Dy = true := by
  unfold sx; rw [if_neg hy, if_neg hx, if_pos hE]
theorem sx_col (hy : ¬ ((Ay < Cy ∧ Ay < Dy ∧ By < Cy ∧ By < Dy) ∨ (Cy < Ay ∧ Cy < By ∧ Dy < Ay ∧ Dy < By))) (hx : ¬ ((Ax < Cx ∧ Ax < Dx ∧ Bx < Cx ∧ Bx < Dx) ∨ (Cx < Ax ∧ Cx < Bx ∧ Dx < Ax ∧ Dx < Bx))) (hE : ¬ ((Ax = Cx ∧ Ay = Cy) ∨ (Ax = Dx ∧ Ay = Dy) ∨ (Bx = Cx ∧ By = Cy) ∨ (Bx = Dx ∧ By = Dy))) (h1 : side Ax Ay Bx By Cx Cy = 0) : sx Ax Ay Bx By Cx Cy Dx Dy = (rcOn Ax Ay Bx By Cx Cy || rcOn Ax Ay Bx By Dx Dy) := by
  unfold sx; rw [if_neg hy, if_neg hx, if_neg hE, if_pos h1]
theorem sx_gen (hy : ¬ ((Ay < Cy ∧ Ay < Dy ∧ By < Cy ∧ By < Dy) ∨ (Cy < Ay ∧ Cy < By ∧ Dy < Ay ∧ Dy < By))) (hx : ¬ ((Ax < Cx ∧ Ax < Dx ∧ Bx < Cx ∧ Bx < Dx) ∨ (Cx < Ax ∧ Cx < Bx ∧ Dx < Ax ∧ Dx < Bx))) (hE : ¬ ((Ax = Cx ∧ Ay = Cy) ∨ (Ax = Dx ∧ Ay = Dy) ∨ (Bx = Cx ∧ By = Cy) ∨ (Bx = Dx ∧ By = Dy))) (h1 : side Ax Ay Bx By Cx Cy ≠ 0) : sx Ax Ay Bx By Cx Cy Dx Dy = meets Ax Ay Bx By Cx Cy Dx Dy := by
  unfold sx; rw [if_neg hy, if_neg hx, if_neg hE, if_neg h1]
end
/-- what IntersectsSegment answers -/
def SisX (Ax Ay Bx By Cx Cy Dx Dy : Int) (w : World) (e : Ending) (w' : World) : Prop :=
  e = .returned (.bool (sx Ax Ay Bx By Cx Cy Dx Dy)) ∧ Below w.heap.size w w'
theorem SisX.mk {Ax Ay Bx By Cx Cy Dx Dy : Int} {w w' : World} {e : Ending} (ans : Bool) (h : e = .returned (.bool ans)) (h1 : sx Ax Ay Bx By Cx Cy Dx Dy = ans) (h2 : Below w.heap.size w w') : SisX Ax Ay Bx By Cx Cy Dx Dy w e w' :=
  ⟨by rw [h1]; exact h, h2⟩



set_option maxHeartbeats 4000000 in
set_option maxRecDepth 100000 in
theorem six_y {ax ay bx bY cx cy dx dy : Nat} {Ax Ay Bx By Cx Cy Dx Dy : Int} (hax : Rep ax Ax) (hay : Rep ay Ay) (hbx : Rep bx Bx) (hby : Rep bY By) (hcx : Rep cx Cx) (hcy : Rep cy Cy) (hdx : Rep dx Dx) (hdy : Rep dy Dy)
    (b1 : -12288 ≤ Ax ∧ Ax ≤ 12288 ∧ -12288 ≤ Ay ∧ Ay ≤ 12288 ∧ -12288 ≤ Bx ∧ Bx ≤ 12288 ∧ -12288 ≤ By ∧ By ≤ 12288) (b2 : -12288 ≤ Cx ∧ Cx ≤ 12288 ∧ -12288 ≤ Cy ∧ Cy ≤ 12288 ∧ -12288 ≤ Dx ∧ Dx ≤ 12288 ∧ -12288 ≤ Dy ∧ Dy ≤ 12288) (hy : ((Ay < Cy ∧ Ay < Dy ∧ By < Cy ∧ By < Dy) ∨ (Cy < Ay ∧ Cy < By ∧ Dy < Ay ∧ Dy < By))) (w : World) :
    Calls Tryz.prog 139 #[.agg #[fl ax, fl ay, fl bx, fl bY], .agg #[fl cx, fl cy, fl dx, fl dy]] w (SisX Ax Ay Bx By Cx Cy Dx Dy w) := by
  have st0 := ((Blk.nil w).push rfl #[fl ax, fl ay, fl bx, fl bY] 73).push (b := w.heap.size + 1) (by simp) #[fl cx, fl cy, fl dx, fl dy] 73
  have zt0 := st0.cell 0 rfl 0
  have zt1 := st0.cell 0 rfl 1
  have zt2 := st0.cell 0 rfl 2
  have zt3 := st0.cell 0 rfl 3
  have zs0 := st0.cell 1 rfl 0
  have zs1 := st0.cell 1 rfl 1
  have zs2 := st0.cell 1 rfl 2
  have zs3 := st0.cell 1 rfl 3
  simp only [List.getElem?_toArray, List.getElem?_cons_zero, List.getElem?_cons_succ] at zt0 zt1 zt2 zt3 zs0 zs1 zs2 zs3
  go_enter Tryz.func139, Tryz.ntmps139
  go_wp2
  refine wp_region_K [] [.val (.pointer (some ⟨w.heap.size, 0, none⟩)),
      .val (.agg #[fl ax, fl ay]),
      .val (.pointer (some ⟨w.heap.size, 2, none⟩)),
      .val (.agg #[fl bx, fl bY]),
      .val (.pointer (some ⟨w.heap.size + 1, 0, none⟩)),
      .val (.agg #[fl cx, fl cy]),
      .val (.pointer (some ⟨w.heap.size + 1, 2, none⟩)),
      .val (.agg #[fl dx, fl dy]),
      .made 50 2,
      .made 50 2,
      .made 50 2,
      .made 50 2,
      .filled 5 #[fl ax, fl ay] 50,
      .filled 6 #[fl bx, fl bY] 50,
      .filled 7 #[fl cx, fl cy] 50,
      .filled 8 #[fl dx, fl dy] 50]
    [[.ini 2], [.frm 0 21], [.ini 2], [.frm 2 23], [.ini 3], [.frm 4 25], [.ini 3], [.frm 6 27], [], [], [], [], [.frm 8 5, .frm 1 22], [.frm 9 6, .frm 3 24], [.frm 10 7, .frm 5 26], [.frm 11 8, .frm 7 28]]
    mixed (by kernel_rfl) (by kernel_rfl) (allPre_of ⟨trivial, trivial, trivial, trivial, trivial, trivial, trivial, trivial, trivial, trivial, trivial, trivial, trivial, trivial, trivial, trivial, trivial⟩)
    ⟨OpOk.quiet rfl ?_,
      OpOk.quiet rfl ?_,
      OpOk.quiet rfl ?_,
      OpOk.quiet rfl ?_,
      OpOk.quiet rfl ?_,
      OpOk.quiet rfl ?_,
      OpOk.quiet rfl ?_,
      OpOk.quiet rfl ?_,
      OpOk.made (cs := #[fl 0, fl 0]) rfl rfl ?_,
      OpOk.made (cs := #[fl 0, fl 0]) rfl rfl ?_,
      OpOk.made (cs := #[fl 0, fl 0]) rfl rfl ?_,
      OpOk.made (cs := #[fl 0, fl 0]) rfl rfl ?_,
      OpOk.fillRow (k := 8) rfl rfl (by kernel_rfl) rfl (oldLt_of ⟨(fun _ h => (nomatch h)), (fun _ h => (nomatch h)), (fun _ h => (nomatch h)), (fun _ h => (nomatch h)), (fun _ h => (nomatch h)), (fun _ h => (nomatch h)), (fun _ h => (nomatch h)), (fun _ h => (nomatch h)), (fun _ h => (nomatch h)), (fun _ h => (nomatch h)), (fun _ h => (nomatch h)), (fun _ h => (nomatch h)), (fun _ h => (nomatch h)), (fun _ h => (nomatch h)), (fun _ h => (nomatch h)), (fun _ h => (nomatch h)), trivial⟩) (by kernel_rfl) (by simp [Value.oneCell']) (fun a w hf => ⟨hf.1, hf.2.1.elim fun _ h => h.elim fun _ h => h⟩) (fun _ _ _ h hb => Keep.setRow h (.inl hb)),
      OpOk.fillRow (k := 9) rfl rfl (by kernel_rfl) rfl (oldLt_of ⟨(fun _ h => (nomatch h)), (fun _ h => (nomatch h)), (fun _ h => (nomatch h)), (fun _ h => (nomatch h)), (fun _ h => (nomatch h)), (fun _ h => (nomatch h)), (fun _ h => (nomatch h)), (fun _ h => (nomatch h)), (fun _ h => (nomatch h)), (fun _ h => (nomatch h)), (fun _ h => (nomatch h)), (fun _ h => (nomatch h)), (fun _ h => (nomatch h)), (fun _ h => (nomatch h)), (fun _ h => (nomatch h)), (fun _ h => (nomatch h)), trivial⟩) (by kernel_rfl) (by simp [Value.oneCell']) (fun a w hf => ⟨hf.1, hf.2.1.elim fun _ h => h.elim fun _ h => h⟩) (fun _ _ _ h hb => Keep.setRow h (.inl hb)),
      OpOk.fillRow (k := 10) rfl rfl (by kernel_rfl) rfl (oldLt_of ⟨(fun _ h => (nomatch h)), (fun _ h => (nomatch h)), (fun _ h => (nomatch h)), (fun _ h => (nomatch h)), (fun _ h => (nomatch h)), (fun _ h => (nomatch h)), (fun _ h => (nomatch h)), (fun _ h => (nomatch h)), (fun _ h => (nomatch h)), (fun _ h => (nomatch h)), (fun _ h => (nomatch h)), (fun _ h => (nomatch h)), (fun _ h => (nomatch h)), (fun _ h => (nomatch h)), (fun _ h => (nomatch h)), (fun _ h => (nomatch h)), trivial⟩) (by kernel_rfl) (by simp [Value.oneCell']) (fun a w hf => ⟨hf.1, hf.2.1.elim fun _ h => h.elim fun _ h => h⟩) (fun _ _ _ h hb => Keep.setRow h (.inl hb)),
      OpOk.fillRow (k := 11) rfl rfl (by kernel_rfl) rfl (oldLt_of ⟨(fun _ h => (nomatch h)), (fun _ h => (nomatch h)), (fun _ h => (nomatch h)), (fun _ h => (nomatch h)), (fun _ h => (nomatch h)), (fun _ h => (nomatch h)), (fun _ h => (nomatch h)), (fun _ h => (nomatch h)), (fun _ h => (nomatch h)), (fun _ h => (nomatch h)), (fun _ h => (nomatch h)), (fun _ h => (nomatch h)), (fun _ h => (nomatch h)), (fun _ h => (nomatch h)), (fun _ h => (nomatch h)), (fun _ h => (nomatch h)), trivial⟩) (by kernel_rfl) (by simp [Value.oneCell']) (fun a w hf => ⟨hf.1, hf.2.1.elim fun _ h => h.elim fun _ h => h⟩) (fun _ _ _ h hb => Keep.setRow h (.inl hb)), trivial⟩ ?_
  · intro a u _ hf
    simp [facts, Need.fact, Act.eval] at hf
    go_simp
  · intro a u hG hf
    simp [facts, Need.fact, Ent.val, Act.eval] at hf
    have hc := True.intro
    have qt0 := (hG.cell (p := ⟨w.heap.size + 1, 0, none⟩) (st0.lt 0 rfl) (by simp)).trans zt0
    have qt1 := (hG.cell (p := ⟨w.heap.size + 1, 1, none⟩) (st0.lt 0 rfl) (by simp)).trans zt1
    have qt2 := (hG.cell (p := ⟨w.heap.size + 1, 2, none⟩) (st0.lt 0 rfl) (by simp)).trans zt2
    have qt3 := (hG.cell (p := ⟨w.heap.size + 1, 3, none⟩) (st0.lt 0 rfl) (by simp)).trans zt3
    have qs0 := (hG.cell (p := ⟨w.heap.size, 0, none⟩) (st0.lt 1 rfl) (by simp)).trans zs0
    have qs1 := (hG.cell (p := ⟨w.heap.size, 1, none⟩) (st0.lt 1 rfl) (by simp)).trans zs1
    have qs2 := (hG.cell (p := ⟨w.heap.size, 2, none⟩) (st0.lt 1 rfl) (by simp)).trans zs2
    have qs3 := (hG.cell (p := ⟨w.heap.size, 3, none⟩) (st0.lt 1 rfl) (by simp)).trans zs3

    go_simp
  · intro a u _ hf
    simp [facts, Need.fact, Act.eval] at hf
    go_simp
  · intro a u hG hf
    simp [facts, Need.fact, Ent.val, Act.eval] at hf
    have hc := True.intro
    have qt0 := (hG.cell (p := ⟨w.heap.size + 1, 0, none⟩) (st0.lt 0 rfl) (by simp)).trans zt0
    have qt1 := (hG.cell (p := ⟨w.heap.size + 1, 1, none⟩) (st0.lt 0 rfl) (by simp)).trans zt1
    have qt2 := (hG.cell (p := ⟨w.heap.size + 1, 2, none⟩) (st0.lt 0 rfl) (by simp)).trans zt2
    have qt3 := (hG.cell (p := ⟨w.heap.size + 1, 3, none⟩) (st0.lt 0 rfl) (by simp)).trans zt3
    have qs0 := (hG.cell (p := ⟨w.heap.size, 0, none⟩) (st0.lt 1 rfl) (by simp)).trans zs0
    have qs1 := (hG.cell (p := ⟨w.heap.size, 1, none⟩) (st0.lt 1 rfl) (by simp)).trans zs1
    have qs2 := (hG.cell (p := ⟨w.heap.size, 2, none⟩) (st0.lt 1 rfl) (by simp)).trans zs2
    have qs3 := (hG.cell (p := ⟨w.heap.size, 3, none⟩) (st0.lt 1 rfl) (by simp)).trans zs3

    go_simp
  · intro a u _ hf
    simp [facts, Need.fact, Act.eval] at hf
    go_simp
  · intro a u hG hf
    simp [facts, Need.fact, Ent.val, Act.eval] at hf
    have hc := True.intro
    have qt0 := (hG.cell (p := ⟨w.heap.size + 1, 0, none⟩) (st0.lt 0 rfl) (by simp)).trans zt0
    have qt1 := (hG.cell (p := ⟨w.heap.size + 1, 1, none⟩) (st0.lt 0 rfl) (by simp)).trans zt1
    have qt2 := (hG.cell (p := ⟨w.heap.size + 1, 2, none⟩) (st0.lt 0 rfl) (by simp)).trans zt2
    have qt3 := (hG.cell (p := ⟨w.heap.size + 1, 3, none⟩) (st0.lt 0 rfl) (by simp)).trans zt3
    have qs0 := (hG.cell (p := ⟨w.heap.size, 0, none⟩) (st0.lt 1 rfl) (by simp)).trans zs0
    have qs1 := (hG.cell (p := ⟨w.heap.size, 1, none⟩) (st0.lt 1 rfl) (by simp)).trans zs1
    have qs2 := (hG.cell (p := ⟨w.heap.size, 2, none⟩) (st0.lt 1 rfl) (by simp)).trans zs2
    have qs3 := (hG.cell (p := ⟨w.heap.size, 3, none⟩) (st0.lt 1 rfl) (by simp)).trans zs3

    go_simp
  · intro a u _ hf
    simp [facts, Need.fact, Act.eval] at hf
    go_simp
  · intro a u hG hf
    simp [facts, Need.fact, Ent.val, Act.eval] at hf
    have hc := True.intro
    have qt0 := (hG.cell (p := ⟨w.heap.size + 1, 0, none⟩) (st0.lt 0 rfl) (by simp)).trans zt0
    have qt1 := (hG.cell (p := ⟨w.heap.size + 1, 1, none⟩) (st0.lt 0 rfl) (by simp)).trans zt1
    have qt2 := (hG.cell (p := ⟨w.heap.size + 1, 2, none⟩) (st0.lt 0 rfl) (by simp)).trans zt2
    have qt3 := (hG.cell (p := ⟨w.heap.size + 1, 3, none⟩) (st0.lt 0 rfl) (by simp)).trans zt3
    have qs0 := (hG.cell (p := ⟨w.heap.size, 0, none⟩) (st0.lt 1 rfl) (by simp)).trans zs0
    have qs1 := (hG.cell (p := ⟨w.heap.size, 1, none⟩) (st0.lt 1 rfl) (by simp)).trans zs1
    have qs2 := (hG.cell (p := ⟨w.heap.size, 2, none⟩) (st0.lt 1 rfl) (by simp)).trans zs2
    have qs3 := (hG.cell (p := ⟨w.heap.size, 3, none⟩) (st0.lt 1 rfl) (by simp)).trans zs3

    go_simp
  · intro a u _ _
    go_simp
  · intro a u _ _
    go_simp
  · intro a u _ _
    go_simp
  · intro a u _ _
    go_simp
  intro u lw hw wx hK hE hI hD
  simp [allE, allPut, Act.put, Act.eval, Ent.filledP, Ent.made, Ent.val] at hE
  obtain ⟨u0, u1, u2, u3, u4, u5, u6, u7, ⟨b8, u8, l8, h8, -⟩, ⟨b9, u9, l9, h9, -⟩, ⟨b10, u10, l10, h10, -⟩, ⟨b11, u11, l11, h11, -⟩, ⟨c12, v12, g12⟩, ⟨c13, v13, g13⟩, ⟨c14, v14, g14⟩, ⟨c15, v15, g15⟩⟩ := hE
  obtain rfl : b8 = c12 := by rw [u8] at v12; simpa using v12
  obtain rfl : b9 = c13 := by rw [u9] at v13; simpa using v13
  obtain rfl : b10 = c14 := by rw [u10] at v14; simpa using v14
  obtain rfl : b11 = c15 := by rw [u11] at v15; simpa using v15
  simp only [allPut, Act.put, u0, u1, u2, u3, u4, u5, u6, u7, u8, u9, u10, u11]
  clear u0 u1 u2 u3 u4 u5 u6 u7 u8 u9 u10 u11 v12 v13 v14 v15
  have st1 := ((((st0.keep hK (fun i x _ => by simp) (fun x hx => by simp at hx)).add g15).add g14).add g13).add g12
  clear zt0 zt1 zt2 zt3 zs0 zs1 zs2 zs3 hK hI hD g12 g13 g14 g15 st0 l8 l9 l10 l11 h8 h9 h10 h11
  have ka0 := st1.cell 0 rfl 0
  have ka1 := st1.cell 0 rfl 1
  have kb0 := st1.cell 1 rfl 0
  have kb1 := st1.cell 1 rfl 1
  have kc0 := st1.cell 2 rfl 0
  have kc1 := st1.cell 2 rfl 1
  have kd0 := st1.cell 3 rfl 0
  have kd1 := st1.cell 3 rfl 1
  have kt0 := st1.cell 4 rfl 0
  have kt1 := st1.cell 4 rfl 1
  have kt2 := st1.cell 4 rfl 2
  have kt3 := st1.cell 4 rfl 3
  have ks0 := st1.cell 5 rfl 0
  have ks1 := st1.cell 5 rfl 1
  have ks2 := st1.cell 5 rfl 2
  have ks3 := st1.cell 5 rfl 3
  simp only [List.getElem?_toArray, List.getElem?_cons_zero, List.getElem?_cons_succ] at ka0 ka1 kb0 kb1 kc0 kc1 kd0 kd1 kt0 kt1 kt2 kt3 ks0 ks1 ks2 ks3
  have hB := st1.hb
  have oaby := oR hay hby
  go_upto_if 33 with (fail)
  go_cut [] from 29 to 91 (fun wy => False)
  case first =>
    have ocdy := oR hcy hdy
    have oacy := oR hay hcy
    have oady := oR hay hdy
    have obcy := oR hby hcy
    have obdy := oR hby hdy
    go_wp2
    all_goals first
      | (exfalso; omega)
      | (go_meet; rfl)
      | (go_ret; exact SisX.mk _ rfl (sx_y hy) hB)
  case rest =>
    exact hcut.elim

set_option maxHeartbeats 4000000 in
set_option maxRecDepth 100000 in
theorem six_x {ax ay bx bY cx cy dx dy : Nat} {Ax Ay Bx By Cx Cy Dx Dy : Int} (hax : Rep ax Ax) (hay : Rep ay Ay) (hbx : Rep bx Bx) (hby : Rep bY By) (hcx : Rep cx Cx) (hcy : Rep cy Cy) (hdx : Rep dx Dx) (hdy : Rep dy Dy)
    (b1 : -12288 ≤ Ax ∧ Ax ≤ 12288 ∧ -12288 ≤ Ay ∧ Ay ≤ 12288 ∧ -12288 ≤ Bx ∧ Bx ≤ 12288 ∧ -12288 ≤ By ∧ By ≤ 12288) (b2 : -12288 ≤ Cx ∧ Cx ≤ 12288 ∧ -12288 ≤ Cy ∧ Cy ≤ 12288 ∧ -12288 ≤ Dx ∧ Dx ≤ 12288 ∧ -12288 ≤ Dy ∧ Dy ≤ 12288) (hy : ¬ ((Ay < Cy ∧ Ay < Dy ∧ By < Cy ∧ By < Dy) ∨ (Cy < Ay ∧ Cy < By ∧ Dy < Ay ∧ Dy < By))) (hx : ((Ax < Cx ∧ Ax < Dx ∧ Bx < Cx ∧ Bx < Dx) ∨ (Cx < Ax ∧ Cx < Bx ∧ Dx < Ax ∧ Dx < Bx))) (w : World) :
    Calls Tryz.prog 139 #[.agg #[fl ax, fl ay, fl bx, fl bY], .agg #[fl cx, fl cy, fl dx, fl dy]] w (SisX Ax Ay Bx By Cx Cy Dx Dy w) := by
  have st0 := ((Blk.nil w).push rfl #[fl ax, fl ay, fl bx, fl bY] 73).push (b := w.heap.size + 1) (by simp) #[fl cx, fl cy, fl dx, fl dy] 73
  have zt0 := st0.cell 0 rfl 0
  have zt1 := st0.cell 0 rfl 1
  have zt2 := st0.cell 0 rfl 2
  have zt3 := st0.cell 0 rfl 3
  have zs0 := st0.cell 1 rfl 0
  have zs1 := st0.cell 1 rfl 1
  have zs2 := st0.cell 1 rfl 2
  have zs3 := st0.cell 1 rfl 3
  simp only [List.getElem?_toArray, List.getElem?_cons_zero, List.getElem?_cons_succ] at zt0 zt1 zt2 zt3 zs0 zs1 zs2 zs3
  go_enter Tryz.func139, Tryz.ntmps139
  go_wp2
  refine wp_region_K [] [.val (.pointer (some ⟨w.heap.size, 0, none⟩)),
      .val (.agg #[fl ax, fl ay]),
      .val (.pointer (some ⟨w.heap.size, 2, none⟩)),
      .val (.agg #[fl bx, fl bY]),
      .val (.pointer (some ⟨w.heap.size + 1, 0, none⟩)),
      .val (.agg #[fl cx, fl cy]),
      .val (.pointer (some ⟨w.heap.size + 1, 2, none⟩)),
      .val (.agg #[fl dx, fl dy]),
      .made 50 2,
      .made 50 2,
      .made 50 2,
      .made 50 2,
      .filled 5 #[fl ax, fl ay] 50,
      .filled 6 #[fl bx, fl bY] 50,
      .filled 7 #[fl cx, fl cy] 50,
      .filled 8 #[fl dx, fl dy] 50]
    [[.ini 2], [.frm 0 21], [.ini 2], [.frm 2 23], [.ini 3], [.frm 4 25], [.ini 3], [.frm 6 27], [], [], [], [], [.frm 8 5, .frm 1 22], [.frm 9 6, .frm 3 24], [.frm 10 7, .frm 5 26], [.frm 11 8, .frm 7 28]]
    mixed (by kernel_rfl) (by kernel_rfl) (allPre_of ⟨trivial, trivial, trivial, trivial, trivial, trivial, trivial, trivial, trivial, trivial, trivial, trivial, trivial, trivial, trivial, trivial, trivial⟩)
    ⟨OpOk.quiet rfl ?_,
      OpOk.quiet rfl ?_,
      OpOk.quiet rfl ?_,
      OpOk.quiet rfl ?_,
      OpOk.quiet rfl ?_,
      OpOk.quiet rfl ?_,
      OpOk.quiet rfl ?_,
      OpOk.quiet rfl ?_,
      OpOk.made (cs := #[fl 0, fl 0]) rfl rfl ?_,
      OpOk.made (cs := #[fl 0, fl 0]) rfl rfl ?_,
      OpOk.made (cs := #[fl 0, fl 0]) rfl rfl ?_,
      OpOk.made (cs := #[fl 0, fl 0]) rfl rfl ?_,
      OpOk.fillRow (k := 8) rfl rfl (by kernel_rfl) rfl (oldLt_of ⟨(fun _ h => (nomatch h)), (fun _ h => (nomatch h)), (fun _ h => (nomatch h)), (fun _ h => (nomatch h)), (fun _ h => (nomatch h)), (fun _ h => (nomatch h)), (fun _ h => (nomatch h)), (fun _ h => (nomatch h)), (fun _ h => (nomatch h)), (fun _ h => (nomatch h)), (fun _ h => (nomatch h)), (fun _ h => (nomatch h)), (fun _ h => (nomatch h)), (fun _ h => (nomatch h)), (fun _ h => (nomatch h)), (fun _ h => (nomatch h)), trivial⟩) (by kernel_rfl) (by simp [Value.oneCell']) (fun a w hf => ⟨hf.1, hf.2.1.elim fun _ h => h.elim fun _ h => h⟩) (fun _ _ _ h hb => Keep.setRow h (.inl hb)),
      OpOk.fillRow (k := 9) rfl rfl (by kernel_rfl) rfl (oldLt_of ⟨(fun _ h => (nomatch h)), (fun _ h => (nomatch h)), (fun _ h => (nomatch h)), (fun _ h => (nomatch h)), (fun _ h => (nomatch h)), (fun _ h => (nomatch h)), (fun _ h => (nomatch h)), (fun _ h => (nomatch h)), (fun _ h => (nomatch h)), (fun _ h => (nomatch h)), (fun _ h => (nomatch h)), (fun _ h => (nomatch h)), (fun _ h => (nomatch h)), (fun _ h => (nomatch h)), (fun _ h => (nomatch h)), (fun _ h => (nomatch h)), trivial⟩) (by kernel_rfl) (by simp [Value.oneCell']) (fun a w hf => ⟨hf.1, hf.2.1.elim fun _ h => h.elim fun _ h => h⟩) (fun _ _ _ h hb => Keep.setRow h (.inl hb)),
      OpOk.fillRow (k := 10) rfl rfl (by kernel_rfl) rfl (oldLt_of ⟨(fun _ h => (nomatch h)), (fun _ h => (nomatch h)), (fun _ h => (nomatch h)), (fun _ h => (nomatch h)), (fun _ h => (nomatch h)), (fun _ h => (nomatch h)), (fun _ h => (nomatch h)), (fun _ h => (nomatch h)), (fun _ h => (nomatch h)), (fun _ h => (nomatch h)), (fun _ h => (nomatch h)), (fun _ h => (nomatch h)), (fun _ h => (nomatch h)), (fun _ h => (nomatch h)), (fun _ h => (nomatch h)), (fun _ h => (nomatch h)), trivial⟩) (by kernel_rfl) (by simp [Value.oneCell']) (fun a w hf => ⟨hf.1, hf.2.1.elim fun _ h => h.elim fun _ h => h⟩) (fun _ _ _ h hb => Keep.setRow h (.inl hb)),
      OpOk.fillRow (k := 11) rfl rfl (by kernel_rfl) rfl (oldLt_of ⟨(fun _ h => (nomatch h)), (fun _ h => (nomatch h)), (fun _ h => (nomatch h)), (fun _ h => (nomatch h)), (fun _ h => (nomatch h)), (fun _ h => (nomatch h)), (fun _ h => (nomatch h)), (fun _ h => (nomatch h)), (fun _ h => (nomatch h)), (fun _ h => (nomatch h)), (fun _ h => (nomatch h)), (fun _ h => (nomatch h)), (fun _ h => (nomatch h)), (fun _ h => (nomatch h)), (fun _ h => (nomatch h)), (fun _ h => (nomatch h)), trivial⟩) (by kernel_rfl) (by simp [Value.oneCell']) (fun a w hf => ⟨hf.1, hf.2.1.elim fun _ h => h.elim fun _ h => h⟩) (fun _ _ _ h hb => Keep.setRow h (.inl hb)), trivial⟩ ?_
  · intro a u _ hf
    simp [facts, Need.fact, Act.eval] at hf
    go_simp
  · intro a u hG hf
    simp [facts, Need.fact, Ent.val, Act.eval] at hf
    have hc := True.intro
    have qt0 := (hG.cell (p := ⟨w.heap.size + 1, 0, none⟩) (st0.lt 0 rfl) (by simp)).trans zt0
    have qt1 := (hG.cell (p := ⟨w.heap.size + 1, 1, none⟩) (st0.lt 0 rfl) (by simp)).trans zt1
    have qt2 := (hG.cell (p := ⟨w.heap.size + 1, 2, none⟩) (st0.lt 0 rfl) (by simp)).trans zt2
    have qt3 := (hG.cell (p := ⟨w.heap.size + 1, 3, none⟩) (st0.lt 0 rfl) (by simp)).trans zt3
    have qs0 := (hG.cell (p := ⟨w.heap.size, 0, none⟩) (st0.lt 1 rfl) (by simp)).trans zs0
    have qs1 := (hG.cell (p := ⟨w.heap.size, 1, none⟩) (st0.lt 1 rfl) (by simp)).trans zs1
    have qs2 := (hG.cell (p := ⟨w.heap.size, 2, none⟩) (st0.lt 1 rfl) (by simp)).trans zs2
    have qs3 := (hG.cell (p := ⟨w.heap.size, 3, none⟩) (st0.lt 1 rfl) (by simp)).trans zs3

    go_simp
  · intro a u _ hf
    simp [facts, Need.fact, Act.eval] at hf
    go_simp
  · intro a u hG hf
    simp [facts, Need.fact, Ent.val, Act.eval] at hf
    have hc := True.intro
    have qt0 := (hG.cell (p := ⟨w.heap.size + 1, 0, none⟩) (st0.lt 0 rfl) (by simp)).trans zt0
    have qt1 := (hG.cell (p := ⟨w.heap.size + 1, 1, none⟩) (st0.lt 0 rfl) (by simp)).trans zt1
    have qt2 := (hG.cell (p := ⟨w.heap.size + 1, 2, none⟩) (st0.lt 0 rfl) (by simp)).trans zt2
    have qt3 := (hG.cell (p := ⟨w.heap.size + 1, 3, none⟩) (st0.lt 0 rfl) (by simp)).trans zt3
    have qs0 := (hG.cell (p := ⟨w.heap.size, 0, none⟩) (st0.lt 1 rfl) (by simp)).trans zs0
    have qs1 := (hG.cell (p := ⟨w.heap.size, 1, none⟩) (st0.lt 1 rfl) (by simp)).trans zs1
    have qs2 := (hG.cell (p := ⟨w.heap.size, 2, none⟩) (st0.lt 1 rfl) (by simp)).trans zs2
    have qs3 := (hG.cell (p := ⟨w.heap.size, 3, none⟩) (st0.lt 1 rfl) (by simp)).trans zs3

    go_simp
  · intro a u _ hf
    simp [facts, Need.fact, Act.eval] at hf
    go_simp
  · intro a u hG hf
    simp [facts, Need.fact, Ent.val, Act.eval] at hf
    have hc := True.intro
    have qt0 := (hG.cell (p := ⟨w.heap.size + 1, 0, none⟩) (st0.lt 0 rfl) (by simp)).trans zt0
    have qt1 := (hG.cell (p := ⟨w.heap.size + 1, 1, none⟩) (st0.lt 0 rfl) (by simp)).trans zt1
    have qt2 := (hG.cell (p := ⟨w.heap.size + 1, 2, none⟩) (st0.lt 0 rfl) (by simp)).trans zt2
    have qt3 := (hG.cell (p := ⟨w.heap.size + 1, 3, none⟩) (st0.lt 0 rfl) (by simp)).trans zt3
    have qs0 := (hG.cell (p := ⟨w.heap.size, 0, none⟩) (st0.lt 1 rfl) (by simp)).trans zs0
    have qs1 := (hG.cell (p := ⟨w.heap.size, 1, none⟩) (st0.lt 1 rfl) (by simp)).trans zs1
    have qs2 := (hG.cell (p := ⟨w.heap.size, 2, none⟩) (st0.lt 1 rfl) (by simp)).trans zs2
    have qs3 := (hG.cell (p := ⟨w.heap.size, 3, none⟩) (st0.lt 1 rfl) (by simp)).trans zs3

    go_simp
  · intro a u _ hf
    simp [facts, Need.fact, Act.eval] at hf
    go_simp
  · intro a u hG hf
    simp [facts, Need.fact, Ent.val, Act.eval] at hf
    have hc := True.intro
    have qt0 := (hG.cell (p := ⟨w.heap.size + 1, 0, none⟩) (st0.lt 0 rfl) (by simp)).trans zt0
    have qt1 := (hG.cell (p := ⟨w.heap.size + 1, 1, none⟩) (st0.lt 0 rfl) (by simp)).trans zt1
    have qt2 := (hG.cell (p := ⟨w.heap.size + 1, 2, none⟩) (st0.lt 0 rfl) (by simp)).trans zt2
    have qt3 := (hG.cell (p := ⟨w.heap.size + 1, 3, none⟩) (st0.lt 0 rfl) (by simp)).trans zt3
    have qs0 := (hG.cell (p := ⟨w.heap.size, 0, none⟩) (st0.lt 1 rfl) (by simp)).trans zs0
    have qs1 := (hG.cell (p := ⟨w.heap.size, 1, none⟩) (st0.lt 1 rfl) (by simp)).trans zs1
    have qs2 := (hG.cell (p := ⟨w.heap.size, 2, none⟩) (st0.lt 1 rfl) (by simp)).trans zs2
    have qs3 := (hG.cell (p := ⟨w.heap.size, 3, none⟩) (st0.lt 1 rfl) (by simp)).trans zs3

    go_simp
  · intro a u _ _
    go_simp
  · intro a u _ _
    go_simp
  · intro a u _ _
    go_simp
  · intro a u _ _
    go_simp
  intro u lw hw wx hK hE hI hD
  simp [allE, allPut, Act.put, Act.eval, Ent.filledP, Ent.made, Ent.val] at hE
  obtain ⟨u0, u1, u2, u3, u4, u5, u6, u7, ⟨b8, u8, l8, h8, -⟩, ⟨b9, u9, l9, h9, -⟩, ⟨b10, u10, l10, h10, -⟩, ⟨b11, u11, l11, h11, -⟩, ⟨c12, v12, g12⟩, ⟨c13, v13, g13⟩, ⟨c14, v14, g14⟩, ⟨c15, v15, g15⟩⟩ := hE
  obtain rfl : b8 = c12 := by rw [u8] at v12; simpa using v12
  obtain rfl : b9 = c13 := by rw [u9] at v13; simpa using v13
  obtain rfl : b10 = c14 := by rw [u10] at v14; simpa using v14
  obtain rfl : b11 = c15 := by rw [u11] at v15; simpa using v15
  simp only [allPut, Act.put, u0, u1, u2, u3, u4, u5, u6, u7, u8, u9, u10, u11]
  clear u0 u1 u2 u3 u4 u5 u6 u7 u8 u9 u10 u11 v12 v13 v14 v15
  have st1 := ((((st0.keep hK (fun i x _ => by simp) (fun x hx => by simp at hx)).add g15).add g14).add g13).add g12
  clear zt0 zt1 zt2 zt3 zs0 zs1 zs2 zs3 hK hI hD g12 g13 g14 g15 st0 l8 l9 l10 l11 h8 h9 h10 h11
  have ka0 := st1.cell 0 rfl 0
  have ka1 := st1.cell 0 rfl 1
  have kb0 := st1.cell 1 rfl 0
  have kb1 := st1.cell 1 rfl 1
  have kc0 := st1.cell 2 rfl 0
  have kc1 := st1.cell 2 rfl 1
  have kd0 := st1.cell 3 rfl 0
  have kd1 := st1.cell 3 rfl 1
  have kt0 := st1.cell 4 rfl 0
  have kt1 := st1.cell 4 rfl 1
  have kt2 := st1.cell 4 rfl 2
  have kt3 := st1.cell 4 rfl 3
  have ks0 := st1.cell 5 rfl 0
  have ks1 := st1.cell 5 rfl 1
  have ks2 := st1.cell 5 rfl 2
  have ks3 := st1.cell 5 rfl 3
  simp only [List.getElem?_toArray, List.getElem?_cons_zero, List.getElem?_cons_succ] at ka0 ka1 kb0 kb1 kc0 kc1 kd0 kd1 kt0 kt1 kt2 kt3 ks0 ks1 ks2 ks3
  have hB := st1.hb
  have oaby := oR hay hby
  go_upto_if 33 with (fail)
  go_cut [] from 29 to 91 (fun wy => wy = wx)
  case first =>
    try clear hE
    try clear h1
    clear hx
    have ocdy := oR hcy hdy
    have oacy := oR hay hcy
    have oady := oR hay hdy
    have obcy := oR hby hcy
    have obdy := oR hby hdy
    by_cases p1 : By < Ay
    · have d1 := decide_eq_true p1
      by_cases p2 : Dy < Cy
      · have d2 := decide_eq_true p2
        have n3 : ¬ Cy < By := by omega
        have n4 : ¬ Ay < Dy := by omega
        have d3 := decide_eq_false n3
        have d4 := decide_eq_false n4
        clear hy
        go_wp2
        go_meet
        rfl
      · have d2 := decide_eq_false p2
        have n3 : ¬ Dy < By := by omega
        have n4 : ¬ Ay < Cy := by omega
        have d3 := decide_eq_false n3
        have d4 := decide_eq_false n4
        clear hy
        go_wp2
        go_meet
        rfl
    · have d1 := decide_eq_false p1
      by_cases p2 : Dy < Cy
      · have d2 := decide_eq_true p2
        have n3 : ¬ Cy < Ay := by omega
        have n4 : ¬ By < Dy := by omega
        have d3 := decide_eq_false n3
        have d4 := decide_eq_false n4
        clear hy
        go_wp2
        go_meet
        rfl
      · have d2 := decide_eq_false p2
        have n3 : ¬ Dy < Ay := by omega
        have n4 : ¬ By < Cy := by omega
        have d3 := decide_eq_false n3
        have d4 := decide_eq_false n4
        clear hy
        go_wp2
        go_meet
        rfl
  case rest =>
    subst hcut
    have oabx := oR hax hbx
    go_upto_if 96 with (fail)
    go_cut [] from 92 to 154 (fun wy => False)
    case first =>
      have ocdx := oR hcx hdx
      have oacx := oR hax hcx
      have oadx := oR hax hdx
      have obcx := oR hbx hcx
      have obdx := oR hbx hdx
      go_wp2
      all_goals first
        | (exfalso; omega)
        | (go_meet; rfl)
        | (go_ret; exact SisX.mk _ rfl (sx_x hx) hB)
    case rest =>
      exact hcut.elim
end Go.Proofs.YtlpibeloedfbdaaGreat
