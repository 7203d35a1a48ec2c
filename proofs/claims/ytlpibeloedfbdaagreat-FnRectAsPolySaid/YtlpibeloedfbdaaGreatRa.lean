import Derived.Test.YtlpibeloedfbdaaGreatQV
import Derived.LoopN
import Derived.Test.YtlpibeloedfbdaaGreatJb
set_option linter.unusedSimpArgs false
set_option linter.unusedVariables false
namespace Go.Proofs.YtlpibeloedfbdaaGreat
open Go.RowKit PF JR

structure _root_.PF.Stop (p : Prop) : Prop where out : p
theorem _root_.PF.stop_region {P : Program} {id : Nat} {ops : Array Oper} {Q : Exit → Act → World → Prop} {a : Act} {w : World} (h : Stop ((Code.region id ops true).wp P Q a w)) : (Code.region id ops true).wp P Q a w := h.out
theorem _root_.PF.stop_loop {P : Program} {c : Code} {Q : Exit → Act → World → Prop} {a : Act} {w : World} (h : Stop ((Code.loop c).wp P Q a w)) : (Code.loop c).wp P Q a w := h.out
theorem _root_.PF.set2 {w : World} {b i j : Nat} {u v : Value} {cs : Array Value} {T : TypeId} (h : w.heap[b]? = some (.cells cs T (0, 0))) (o : Obj) :
    (((w.setCell ⟨b, i, none⟩ u).setCell ⟨b, j, none⟩ v).alloc o).heap[b]? = some (.cells ((cs.setIfInBounds i u).setIfInBounds j v) T (0, 0)) := by
  rw [setCell_row h]
  have h2 := setRow_same (cells := cs.setIfInBounds i u) h
  rw [setCell_row h2]
  exact (Below.heap_alloc _ o b (lt_of_some (setRow_same h2))).trans (setRow_same h2)
theorem _root_.PF.set2o {w : World} {b i j : Nat} {u v : Value} (o : Obj) (k : Nat) (hk : k ≠ b) (hl : k < w.heap.size) :
    (((w.setCell ⟨b, i, none⟩ u).setCell ⟨b, j, none⟩ v).alloc o).heap[k]? = w.heap[k]? :=
  (Below.heap_alloc _ o k (by simpa using hl)).trans ((Below.heap_setCell _ _ _ k hk).trans (Below.heap_setCell _ _ _ k hk))
theorem infoP' : (Tryz.prog.info? 23).map (fun i => (i.zero, i.size, i.bytes)) = some (some (.agg #[.int .i64 0, .int .i64 0]), 2, 16) := by kernel_rfl
def _root_.PF.ptI (k : Nat) (X0 Y0 X1 Y1 : Int) : Int × Int := match k with | 0 => (X0, Y0) | 1 => (X1, Y0) | 2 => (X1, Y1) | 3 => (X0, Y1) | _ => (X0, Y0)
theorem _root_.PF.ptI_bd (k : Nat) (X0 Y0 X1 Y1 a b : Int) (h : a ≤ X0 ∧ X0 ≤ b ∧ a ≤ Y0 ∧ Y0 ≤ b ∧ a ≤ X1 ∧ X1 ≤ b ∧ a ≤ Y1 ∧ Y1 ≤ b) : a ≤ (ptI k X0 Y0 X1 Y1).1 ∧ (ptI k X0 Y0 X1 Y1).1 ≤ b ∧ a ≤ (ptI k X0 Y0 X1 Y1).2 ∧ (ptI k X0 Y0 X1 Y1).2 ≤ b := by
  unfold ptI; split <;> simp <;> omega
theorem patk_c (k : Nat) (hk : k < 5) (X0 Y0 X1 Y1 : Int) (w : World) : Calls Tryz.prog 34 #[.agg #[fl (fb X0), fl (fb Y0), fl (fb X1), fl (fb Y1)], .int .i64 k] w fun e w' => e = .returned (.agg #[fl (fb (ptI k X0 Y0 X1 Y1).1), fl (fb (ptI k X0 Y0 X1 Y1).2)]) ∧ Below w.heap.size w w' := by
  match k, hk with
  | 0, _ => exact pat0_c _ _ _ _ w
  | 1, _ => exact pat1_c _ _ _ _ w
  | 2, _ => exact pat2_c _ _ _ _ w
  | 3, _ => exact pat3_c _ _ _ _ w
  | 4, _ => exact pat4_c _ _ _ _ w
theorem _root_.PF.own_one {w : World} {base : Nat} {T : TypeId} {size n : Nat} {v : Value} {xs : List Value} (h : w.ownsRow base T size v n xs) : v.oneCell' = true := by
  rcases h.2 with ⟨rfl, _⟩ | ⟨g, cap, cur, rfl, _⟩ <;> rfl
theorem _root_.PF.own_slice {w : World} {base : Nat} {T : TypeId} {size n : Nat} {v : Value} {xs : List Value} (h : w.ownsRow base T size v n xs) (hn : n ≠ 0) : ∃ g c, v = .slice (some g) n c := by
  rcases h.2 with ⟨rfl, h0⟩ | ⟨g, cap, cur, rfl, _⟩
  · exact absurd h0 hn
  · exact ⟨_, _, rfl⟩
theorem infoA' : (Tryz.prog.info? 24).map (fun i => (i.zero, i.size, i.bytes)) = some (some (.agg #[.int .i64 0, .int .i64 0, .int .i64 0, .int .i64 0]), 4, 32) := by kernel_rfl
theorem satk_c (k : Nat) (hk : k < 4) (X0 Y0 X1 Y1 : Int) (w : World) : Calls Tryz.prog 36 #[.agg #[fl (fb X0), fl (fb Y0), fl (fb X1), fl (fb Y1)], .int .i64 k] w fun e w' => e = .returned (.agg #[fl (fb (ptI k X0 Y0 X1 Y1).1), fl (fb (ptI k X0 Y0 X1 Y1).2), fl (fb (ptI (k + 1) X0 Y0 X1 Y1).1), fl (fb (ptI (k + 1) X0 Y0 X1 Y1).2)]) ∧ Below w.heap.size w w' := by
  match k, hk with
  | 0, _ => exact sat0_c _ _ _ _ w
  | 1, _ => exact sat1_c _ _ _ _ w
  | 2, _ => exact sat2_c _ _ _ _ w
  | 3, _ => exact sat3_c _ _ _ _ w
theorem box4 (w : World) (a b c d : Obj) : Below w.heap.size w ((((w.alloc a).alloc b).alloc c).alloc d) :=
  ((((Below.refl _ _).alloc (Nat.le_refl _) _).alloc (by simp) _).alloc (by simp; omega) _).alloc (by simp; omega) _
theorem box_facts (w : World) (a b c d : Obj) (w1 : World) (hb : Below ((((w.alloc a).alloc b).alloc c).alloc d).heap.size ((((w.alloc a).alloc b).alloc c).alloc d) w1) :
    w1.heap[w.heap.size + 1]? = some b ∧ w1.heap[w.heap.size + 1 + 1]? = some c ∧ w1.heap[w.heap.size + 1 + 1 + 1]? = some d ∧ w.heap.size + 4 ≤ w1.heap.size ∧ Below w.heap.size w w1 := by
  have e1 : (w.alloc a).heap.size = w.heap.size + 1 := by simp
  have e2 : ((w.alloc a).alloc b).heap.size = w.heap.size + 1 + 1 := by simp
  have e3 : (((w.alloc a).alloc b).alloc c).heap.size = w.heap.size + 1 + 1 + 1 := by simp
  have e4 : ((((w.alloc a).alloc b).alloc c).alloc d).heap.size = w.heap.size + 1 + 1 + 1 + 1 := by simp
  have n1 := heap_alloc_new (w.alloc a) b
  have n2 := heap_alloc_new ((w.alloc a).alloc b) c
  have n3 := heap_alloc_new (((w.alloc a).alloc b).alloc c) d
  rw [e1] at n1
  rw [e2] at n2
  rw [e3] at n3
  refine ⟨?_, ?_, ?_, ?_, (box4 w a b c d).trans (hb.mono (by omega))⟩
  · exact (hb.block _ (by omega)).trans ((Below.heap_alloc _ d _ (by omega)).trans ((Below.heap_alloc _ c _ (by omega)).trans n1))
  · exact (hb.block _ (by omega)).trans ((Below.heap_alloc _ d _ (by omega)).trans n2)
  · exact (hb.block _ (by omega)).trans n3
  · have := hb.size; omega

set_option maxHeartbeats 2000000 in
set_option maxRecDepth 100000 in
theorem rectAsk_core (X0 Y0 X1 Y1 U0 V0 U1 V1 PX PY : Int) (q1 q2 q3 q4 q6 : Bool) (ar : Nat) (k1 : ∀ u, Calls Tryz.prog 22 #[.agg #[fl (fb X0), fl (fb Y0), fl (fb X1), fl (fb Y1)], .agg #[fl (fb PX), fl (fb PY)]] u fun e w' => e = .returned (.bool q1) ∧ Below u.heap.size u w') (k2 : ∀ u, Calls Tryz.prog 23 #[.agg #[fl (fb X0), fl (fb Y0), fl (fb X1), fl (fb Y1)], .agg #[fl (fb PX), fl (fb PY)]] u fun e w' => e = .returned (.bool q2) ∧ Below u.heap.size u w') (k3 : ∀ u, Calls Tryz.prog 24 #[.agg #[fl (fb X0), fl (fb Y0), fl (fb X1), fl (fb Y1)], .agg #[fl (fb U0), fl (fb V0), fl (fb U1), fl (fb V1)]] u fun e w' => e = .returned (.bool q3) ∧ Below u.heap.size u w') (k4 : ∀ u, Calls Tryz.prog 25 #[.agg #[fl (fb X0), fl (fb Y0), fl (fb X1), fl (fb Y1)], .agg #[fl (fb U0), fl (fb V0), fl (fb U1), fl (fb V1)]] u fun e w' => e = .returned (.bool q4) ∧ Below u.heap.size u w') (k6 : ∀ u, Calls Tryz.prog 27 #[.agg #[fl (fb X0), fl (fb Y0), fl (fb X1), fl (fb Y1)]] u fun e w' => e = .returned (.bool q6) ∧ Below u.heap.size u w') (k9 : ∀ u, Calls Tryz.prog 30 #[.agg #[fl (fb X0), fl (fb Y0), fl (fb X1), fl (fb Y1)]] u fun e w' => e = .returned (fl ar) ∧ Below u.heap.size u w') (bd : -16384 ≤ X0 ∧ X0 ≤ 16384 ∧ -16384 ≤ Y0 ∧ Y0 ≤ 16384 ∧ -16384 ≤ X1 ∧ X1 ≤ 16384 ∧ -16384 ≤ Y1 ∧ Y1 ≤ 16384) (w : World) :
    Calls Tryz.prog 13 #[.agg #[.int .i64 X0, .int .i64 Y0, .int .i64 X1, .int .i64 Y1], .agg #[.int .i64 U0, .int .i64 V0, .int .i64 U1, .int .i64 V1], .agg #[.int .i64 PX, .int .i64 PY]] w fun e w' => ∃ (vp vs : Option Addr) (cp cs : Nat), e = .returned (.agg #[.bool q1, .bool q2, .bool q3, .bool q4, .bool false, .bool q6, .bool true, .bool false, fl ar, .int .i64 (X1 + X0), .int .i64 (Y1 + Y0), .slice vp 5 cp, .slice vs 4 cs]) ∧ Below w.heap.size w w' := by
  obtain ⟨d1, e1, t1⟩ := addR (fb_rep X1 (by omega)) (fb_rep X0 (by omega)) (by omega)
  obtain ⟨d2, e2, t2⟩ := addR (fb_rep Y1 (by omega)) (fb_rep Y0 (by omega)) (by omega)
  obtain ⟨p1, e3', n1⟩ := half_rep t1 (rM 2 (by decide) 4611686018427387904 (by decide +kernel)) (by omega)
  obtain ⟨p2, e4', n2⟩ := half_rep t2 (rM 2 (by decide) 4611686018427387904 (by decide +kernel)) (by omega)
  have e3 : FloatKind.f64.format.div d1 4611686018427387904 = some p1 := e3'
  have e4 : FloatKind.f64.format.div d2 4611686018427387904 = some p2 := e4'
  obtain ⟨m1, e5', o1⟩ := twice_half (rM 2 (by decide) 4611686018427387904 (by decide +kernel)) n1 (by omega)
  obtain ⟨m2, e6', o2⟩ := twice_half (rM 2 (by decide) 4611686018427387904 (by decide +kernel)) n2 (by omega)
  have e5 : FloatKind.f64.format.mul 4611686018427387904 p1 = some m1 := e5'
  have e6 : FloatKind.f64.format.mul 4611686018427387904 p2 = some m2 := e6'
  have u1 := toInt_rep o1
  have u2 := toInt_rep o2
  clear e3' e4' e5' e6' n1 n2 t1 t2 o1 o2
  go_enter Tryz.func13, Tryz.ntmps13
  go_wp2_with (go_at_call 16; refine Stop.out ?_)
  refine ⟨?_⟩
  refine (rect_c X0 Y0 X1 Y1 _).mono ?_
  rintro e w1 ⟨rfl, hb⟩
  obtain ⟨r4, r5, r6, hsz, hB⟩ := box_facts w _ _ _ _ w1 hb
  have s0 := cellAt r4 0
  have s1 := cellAt r4 1
  have s2 := cellAt r4 2
  have s3 := cellAt r4 3
  have z0 := cellAt r5 0
  have z1 := cellAt r5 1
  simp only [List.getElem?_toArray, List.getElem?_cons_zero, List.getElem?_cons_succ] at s0 s1 s2 s3 z0 z1
  clear r4 r5
  clear hb
  go_wp2_with (with_reducible refine stop_region ?_)
  refine ⟨?_⟩
  have S0 := (World.cell?_of_block (Below.heap_alloc w1 (.cells #[fl (fb X0), fl (fb Y0), fl (fb X1), fl (fb Y1)] 52) _ (by show w.heap.size + 1 < w1.heap.size; omega))).trans s0
  have S1 := (World.cell?_of_block (Below.heap_alloc w1 (.cells #[fl (fb X0), fl (fb Y0), fl (fb X1), fl (fb Y1)] 52) _ (by show w.heap.size + 1 < w1.heap.size; omega))).trans s1
  have S2 := (World.cell?_of_block (Below.heap_alloc w1 (.cells #[fl (fb X0), fl (fb Y0), fl (fb X1), fl (fb Y1)] 52) _ (by show w.heap.size + 1 < w1.heap.size; omega))).trans s2
  have S3 := (World.cell?_of_block (Below.heap_alloc w1 (.cells #[fl (fb X0), fl (fb Y0), fl (fb X1), fl (fb Y1)] 52) _ (by show w.heap.size + 1 < w1.heap.size; omega))).trans s3
  have Z0 := (World.cell?_of_block (Below.heap_alloc w1 (.cells #[fl (fb X0), fl (fb Y0), fl (fb X1), fl (fb Y1)] 52) _ (by show w.heap.size + 1 + 1 < w1.heap.size; omega))).trans z0
  have Z1 := (World.cell?_of_block (Below.heap_alloc w1 (.cells #[fl (fb X0), fl (fb Y0), fl (fb X1), fl (fb Y1)] 52) _ (by show w.heap.size + 1 + 1 < w1.heap.size; omega))).trans z1
  have W0 := cellAt (heap_alloc_new w1 (.cells #[fl (fb X0), fl (fb Y0), fl (fb X1), fl (fb Y1)] 52)) 0
  have W1 := cellAt (heap_alloc_new w1 (.cells #[fl (fb X0), fl (fb Y0), fl (fb X1), fl (fb Y1)] 52)) 1
  have W2 := cellAt (heap_alloc_new w1 (.cells #[fl (fb X0), fl (fb Y0), fl (fb X1), fl (fb Y1)] 52)) 2
  have W3 := cellAt (heap_alloc_new w1 (.cells #[fl (fb X0), fl (fb Y0), fl (fb X1), fl (fb Y1)] 52)) 3
  simp only [List.getElem?_toArray, List.getElem?_cons_zero, List.getElem?_cons_succ] at W0 W1 W2 W3
  refine wp_region_K [] [.val (.agg #[fl (fb X0), fl (fb Y0), fl (fb X1), fl (fb Y1)]),
      .val (.agg #[.int .i64 PX, .int .i64 PY]),
      .val (.agg #[fl (fb PX), fl (fb PY)]),
      .val (.bool q1),
      .val (.agg #[fl (fb X0), fl (fb Y0), fl (fb X1), fl (fb Y1)]),
      .val (.agg #[.int .i64 PX, .int .i64 PY]),
      .val (.agg #[fl (fb PX), fl (fb PY)]),
      .val (.bool q2),
      .val (.agg #[fl (fb X0), fl (fb Y0), fl (fb X1), fl (fb Y1)]),
      .val (.agg #[.int .i64 U0, .int .i64 V0, .int .i64 U1, .int .i64 V1]),
      .val (.agg #[fl (fb U0), fl (fb V0), fl (fb U1), fl (fb V1)]),
      .val (.bool q3),
      .val (.agg #[fl (fb X0), fl (fb Y0), fl (fb X1), fl (fb Y1)]),
      .val (.agg #[.int .i64 U0, .int .i64 V0, .int .i64 U1, .int .i64 V1]),
      .val (.agg #[fl (fb U0), fl (fb V0), fl (fb U1), fl (fb V1)]),
      .val (.bool q4),
      .val (.agg #[fl (fb X0), fl (fb Y0), fl (fb X1), fl (fb Y1)]),
      .val (.bool false),
      .val (.agg #[fl (fb X0), fl (fb Y0), fl (fb X1), fl (fb Y1)]),
      .val (.bool q6),
      .val (.agg #[fl (fb X0), fl (fb Y0), fl (fb X1), fl (fb Y1)]),
      .val (.bool true),
      .val (.agg #[fl (fb X0), fl (fb Y0), fl (fb X1), fl (fb Y1)]),
      .val (.bool false),
      .val (.agg #[fl (fb X0), fl (fb Y0), fl (fb X1), fl (fb Y1)]),
      .val (fl ar),
      .val (.agg #[.bool q1, .bool q2, .bool q3, .bool q4, .bool false, .bool q6, .bool true, .bool false, fl ar, .int .i64 0, .int .i64 0, .slice none 0 0, .slice none 0 0]),
      .made 42 13,
      .filled 8 #[.bool q1, .bool q2, .bool q3, .bool q4, .bool false, .bool q6, .bool true, .bool false, fl ar, .int .i64 0, .int .i64 0, .slice none 0 0, .slice none 0 0] 42]
    [[.ini 7], [.ini 5], [.frm 1 16], [.frm 0 15, .frm 2 17], [.ini 7], [.ini 5], [.frm 5 20], [.frm 4 19, .frm 6 21], [.ini 7], [.ini 4], [.frm 9 24], [.frm 8 23, .frm 10 25], [.ini 7], [.ini 4], [.frm 13 28], [.frm 12 27, .frm 14 29], [.ini 7], [.frm 16 31], [.ini 7], [.frm 18 33], [.ini 7], [.frm 20 35], [.ini 7], [.frm 22 37], [.ini 7], [.frm 24 39], [.frm 3 18, .frm 7 22, .frm 11 26, .frm 15 30, .frm 17 32, .frm 19 34, .frm 21 36, .frm 23 38, .frm 25 40], [], [.frm 27 8, .frm 26 41]]
    mixed (by kernel_rfl) (by kernel_rfl) (allPre_of ⟨trivial, trivial, trivial, trivial, trivial, trivial, trivial, trivial, trivial, trivial, trivial, trivial, trivial, trivial, trivial, trivial, trivial, trivial, trivial, trivial, trivial, trivial, trivial, trivial, trivial, trivial, trivial, trivial, trivial, trivial⟩)
    ⟨OpOk.quiet rfl ?_,
      OpOk.quiet rfl ?_,
      OpOk.call rfl ?_,
      OpOk.call rfl ?_,
      OpOk.quiet rfl ?_,
      OpOk.quiet rfl ?_,
      OpOk.call rfl ?_,
      OpOk.call rfl ?_,
      OpOk.quiet rfl ?_,
      OpOk.quiet rfl ?_,
      OpOk.call rfl ?_,
      OpOk.call rfl ?_,
      OpOk.quiet rfl ?_,
      OpOk.quiet rfl ?_,
      OpOk.call rfl ?_,
      OpOk.call rfl ?_,
      OpOk.quiet rfl ?_,
      OpOk.call rfl ?_,
      OpOk.quiet rfl ?_,
      OpOk.call rfl ?_,
      OpOk.quiet rfl ?_,
      OpOk.call rfl ?_,
      OpOk.quiet rfl ?_,
      OpOk.call rfl ?_,
      OpOk.quiet rfl ?_,
      OpOk.call rfl ?_,
      OpOk.quiet rfl ?_,
      OpOk.made (cs := #[.bool false, .bool false, .bool false, .bool false, .bool false, .bool false, .bool false, .bool false, fl 0, .int .i64 0, .int .i64 0, .slice none 0 0, .slice none 0 0]) rfl rfl ?_,
      OpOk.fillRow (k := 27) rfl rfl (by kernel_rfl) rfl (oldLt_of ⟨(fun _ h => (nomatch h)), (fun _ h => (nomatch h)), (fun _ h => (nomatch h)), (fun _ h => (nomatch h)), (fun _ h => (nomatch h)), (fun _ h => (nomatch h)), (fun _ h => (nomatch h)), (fun _ h => (nomatch h)), (fun _ h => (nomatch h)), (fun _ h => (nomatch h)), (fun _ h => (nomatch h)), (fun _ h => (nomatch h)), (fun _ h => (nomatch h)), (fun _ h => (nomatch h)), (fun _ h => (nomatch h)), (fun _ h => (nomatch h)), (fun _ h => (nomatch h)), (fun _ h => (nomatch h)), (fun _ h => (nomatch h)), (fun _ h => (nomatch h)), (fun _ h => (nomatch h)), (fun _ h => (nomatch h)), (fun _ h => (nomatch h)), (fun _ h => (nomatch h)), (fun _ h => (nomatch h)), (fun _ h => (nomatch h)), (fun _ h => (nomatch h)), (fun _ h => (nomatch h)), (fun _ h => (nomatch h)), trivial⟩) (by kernel_rfl) (by simp [Value.oneCell']) (fun a w hf => ⟨hf.1, hf.2.1.elim fun _ h => h.elim fun _ h => h⟩) (fun _ _ _ h hb => Keep.setRow h (.inl hb)), trivial⟩ ?_
  · intro a u hG hf
    simp [facts, Need.fact, Act.eval] at hf
    have hc := True.intro
    have s0' := (hG.cell (p := ⟨w.heap.size + 1, 0, none⟩) (by simp <;> omega) (by simp)).trans S0
    have s1' := (hG.cell (p := ⟨w.heap.size + 1, 1, none⟩) (by simp <;> omega) (by simp)).trans S1
    have s2' := (hG.cell (p := ⟨w.heap.size + 1, 2, none⟩) (by simp <;> omega) (by simp)).trans S2
    have s3' := (hG.cell (p := ⟨w.heap.size + 1, 3, none⟩) (by simp <;> omega) (by simp)).trans S3
    have z0' := (hG.cell (p := ⟨w.heap.size + 1 + 1, 0, none⟩) (by simp <;> omega) (by simp)).trans Z0
    have z1' := (hG.cell (p := ⟨w.heap.size + 1 + 1, 1, none⟩) (by simp <;> omega) (by simp)).trans Z1
    have w0' := (hG.cell (p := ⟨w1.heap.size, 0, none⟩) (by simp <;> omega) (by simp)).trans W0
    have w1' := (hG.cell (p := ⟨w1.heap.size, 1, none⟩) (by simp <;> omega) (by simp)).trans W1
    have w2' := (hG.cell (p := ⟨w1.heap.size, 2, none⟩) (by simp <;> omega) (by simp)).trans W2
    have w3' := (hG.cell (p := ⟨w1.heap.size, 3, none⟩) (by simp <;> omega) (by simp)).trans W3

    go_simp
  · intro a u hG hf
    simp [facts, Need.fact, Act.eval] at hf
    have hc := True.intro
    have s0' := (hG.cell (p := ⟨w.heap.size + 1, 0, none⟩) (by simp <;> omega) (by simp)).trans S0
    have s1' := (hG.cell (p := ⟨w.heap.size + 1, 1, none⟩) (by simp <;> omega) (by simp)).trans S1
    have s2' := (hG.cell (p := ⟨w.heap.size + 1, 2, none⟩) (by simp <;> omega) (by simp)).trans S2
    have s3' := (hG.cell (p := ⟨w.heap.size + 1, 3, none⟩) (by simp <;> omega) (by simp)).trans S3
    have z0' := (hG.cell (p := ⟨w.heap.size + 1 + 1, 0, none⟩) (by simp <;> omega) (by simp)).trans Z0
    have z1' := (hG.cell (p := ⟨w.heap.size + 1 + 1, 1, none⟩) (by simp <;> omega) (by simp)).trans Z1
    have w0' := (hG.cell (p := ⟨w1.heap.size, 0, none⟩) (by simp <;> omega) (by simp)).trans W0
    have w1' := (hG.cell (p := ⟨w1.heap.size, 1, none⟩) (by simp <;> omega) (by simp)).trans W1
    have w2' := (hG.cell (p := ⟨w1.heap.size, 2, none⟩) (by simp <;> omega) (by simp)).trans W2
    have w3' := (hG.cell (p := ⟨w1.heap.size, 3, none⟩) (by simp <;> omega) (by simp)).trans W3

    go_simp
  · intro a u _ hf
    simp [facts, Need.fact, Ent.val, Act.eval] at hf
    refine ⟨_, _, by go_simp, (pt_c PX PY _).mono ?_⟩
    rintro e w' ⟨rfl, hb⟩
    exact ⟨_, rfl, hb, rfl⟩
  · intro a u _ hf
    simp [facts, Need.fact, Ent.val, Act.eval] at hf
    refine ⟨_, _, by go_simp, (k1 _).mono ?_⟩
    rintro e w' ⟨rfl, hb⟩
    exact ⟨_, rfl, hb, rfl⟩
  · intro a u hG hf
    simp [facts, Need.fact, Act.eval] at hf
    have hc := True.intro
    have s0' := (hG.cell (p := ⟨w.heap.size + 1, 0, none⟩) (by simp <;> omega) (by simp)).trans S0
    have s1' := (hG.cell (p := ⟨w.heap.size + 1, 1, none⟩) (by simp <;> omega) (by simp)).trans S1
    have s2' := (hG.cell (p := ⟨w.heap.size + 1, 2, none⟩) (by simp <;> omega) (by simp)).trans S2
    have s3' := (hG.cell (p := ⟨w.heap.size + 1, 3, none⟩) (by simp <;> omega) (by simp)).trans S3
    have z0' := (hG.cell (p := ⟨w.heap.size + 1 + 1, 0, none⟩) (by simp <;> omega) (by simp)).trans Z0
    have z1' := (hG.cell (p := ⟨w.heap.size + 1 + 1, 1, none⟩) (by simp <;> omega) (by simp)).trans Z1
    have w0' := (hG.cell (p := ⟨w1.heap.size, 0, none⟩) (by simp <;> omega) (by simp)).trans W0
    have w1' := (hG.cell (p := ⟨w1.heap.size, 1, none⟩) (by simp <;> omega) (by simp)).trans W1
    have w2' := (hG.cell (p := ⟨w1.heap.size, 2, none⟩) (by simp <;> omega) (by simp)).trans W2
    have w3' := (hG.cell (p := ⟨w1.heap.size, 3, none⟩) (by simp <;> omega) (by simp)).trans W3

    go_simp
  · intro a u hG hf
    simp [facts, Need.fact, Act.eval] at hf
    have hc := True.intro
    have s0' := (hG.cell (p := ⟨w.heap.size + 1, 0, none⟩) (by simp <;> omega) (by simp)).trans S0
    have s1' := (hG.cell (p := ⟨w.heap.size + 1, 1, none⟩) (by simp <;> omega) (by simp)).trans S1
    have s2' := (hG.cell (p := ⟨w.heap.size + 1, 2, none⟩) (by simp <;> omega) (by simp)).trans S2
    have s3' := (hG.cell (p := ⟨w.heap.size + 1, 3, none⟩) (by simp <;> omega) (by simp)).trans S3
    have z0' := (hG.cell (p := ⟨w.heap.size + 1 + 1, 0, none⟩) (by simp <;> omega) (by simp)).trans Z0
    have z1' := (hG.cell (p := ⟨w.heap.size + 1 + 1, 1, none⟩) (by simp <;> omega) (by simp)).trans Z1
    have w0' := (hG.cell (p := ⟨w1.heap.size, 0, none⟩) (by simp <;> omega) (by simp)).trans W0
    have w1' := (hG.cell (p := ⟨w1.heap.size, 1, none⟩) (by simp <;> omega) (by simp)).trans W1
    have w2' := (hG.cell (p := ⟨w1.heap.size, 2, none⟩) (by simp <;> omega) (by simp)).trans W2
    have w3' := (hG.cell (p := ⟨w1.heap.size, 3, none⟩) (by simp <;> omega) (by simp)).trans W3

    go_simp
  · intro a u _ hf
    simp [facts, Need.fact, Ent.val, Act.eval] at hf
    refine ⟨_, _, by go_simp, (pt_c PX PY _).mono ?_⟩
    rintro e w' ⟨rfl, hb⟩
    exact ⟨_, rfl, hb, rfl⟩
  · intro a u _ hf
    simp [facts, Need.fact, Ent.val, Act.eval] at hf
    refine ⟨_, _, by go_simp, (k2 _).mono ?_⟩
    rintro e w' ⟨rfl, hb⟩
    exact ⟨_, rfl, hb, rfl⟩
  · intro a u hG hf
    simp [facts, Need.fact, Act.eval] at hf
    have hc := True.intro
    have s0' := (hG.cell (p := ⟨w.heap.size + 1, 0, none⟩) (by simp <;> omega) (by simp)).trans S0
    have s1' := (hG.cell (p := ⟨w.heap.size + 1, 1, none⟩) (by simp <;> omega) (by simp)).trans S1
    have s2' := (hG.cell (p := ⟨w.heap.size + 1, 2, none⟩) (by simp <;> omega) (by simp)).trans S2
    have s3' := (hG.cell (p := ⟨w.heap.size + 1, 3, none⟩) (by simp <;> omega) (by simp)).trans S3
    have z0' := (hG.cell (p := ⟨w.heap.size + 1 + 1, 0, none⟩) (by simp <;> omega) (by simp)).trans Z0
    have z1' := (hG.cell (p := ⟨w.heap.size + 1 + 1, 1, none⟩) (by simp <;> omega) (by simp)).trans Z1
    have w0' := (hG.cell (p := ⟨w1.heap.size, 0, none⟩) (by simp <;> omega) (by simp)).trans W0
    have w1' := (hG.cell (p := ⟨w1.heap.size, 1, none⟩) (by simp <;> omega) (by simp)).trans W1
    have w2' := (hG.cell (p := ⟨w1.heap.size, 2, none⟩) (by simp <;> omega) (by simp)).trans W2
    have w3' := (hG.cell (p := ⟨w1.heap.size, 3, none⟩) (by simp <;> omega) (by simp)).trans W3

    go_simp
  · intro a u hG hf
    simp [facts, Need.fact, Act.eval] at hf
    have hc := True.intro
    have s0' := (hG.cell (p := ⟨w.heap.size + 1, 0, none⟩) (by simp <;> omega) (by simp)).trans S0
    have s1' := (hG.cell (p := ⟨w.heap.size + 1, 1, none⟩) (by simp <;> omega) (by simp)).trans S1
    have s2' := (hG.cell (p := ⟨w.heap.size + 1, 2, none⟩) (by simp <;> omega) (by simp)).trans S2
    have s3' := (hG.cell (p := ⟨w.heap.size + 1, 3, none⟩) (by simp <;> omega) (by simp)).trans S3
    have z0' := (hG.cell (p := ⟨w.heap.size + 1 + 1, 0, none⟩) (by simp <;> omega) (by simp)).trans Z0
    have z1' := (hG.cell (p := ⟨w.heap.size + 1 + 1, 1, none⟩) (by simp <;> omega) (by simp)).trans Z1
    have w0' := (hG.cell (p := ⟨w1.heap.size, 0, none⟩) (by simp <;> omega) (by simp)).trans W0
    have w1' := (hG.cell (p := ⟨w1.heap.size, 1, none⟩) (by simp <;> omega) (by simp)).trans W1
    have w2' := (hG.cell (p := ⟨w1.heap.size, 2, none⟩) (by simp <;> omega) (by simp)).trans W2
    have w3' := (hG.cell (p := ⟨w1.heap.size, 3, none⟩) (by simp <;> omega) (by simp)).trans W3

    go_simp
  · intro a u _ hf
    simp [facts, Need.fact, Ent.val, Act.eval] at hf
    refine ⟨_, _, by go_simp, (rect_c U0 V0 U1 V1 _).mono ?_⟩
    rintro e w' ⟨rfl, hb⟩
    exact ⟨_, rfl, hb, rfl⟩
  · intro a u _ hf
    simp [facts, Need.fact, Ent.val, Act.eval] at hf
    refine ⟨_, _, by go_simp, (k3 _).mono ?_⟩
    rintro e w' ⟨rfl, hb⟩
    exact ⟨_, rfl, hb, rfl⟩
  · intro a u hG hf
    simp [facts, Need.fact, Act.eval] at hf
    have hc := True.intro
    have s0' := (hG.cell (p := ⟨w.heap.size + 1, 0, none⟩) (by simp <;> omega) (by simp)).trans S0
    have s1' := (hG.cell (p := ⟨w.heap.size + 1, 1, none⟩) (by simp <;> omega) (by simp)).trans S1
    have s2' := (hG.cell (p := ⟨w.heap.size + 1, 2, none⟩) (by simp <;> omega) (by simp)).trans S2
    have s3' := (hG.cell (p := ⟨w.heap.size + 1, 3, none⟩) (by simp <;> omega) (by simp)).trans S3
    have z0' := (hG.cell (p := ⟨w.heap.size + 1 + 1, 0, none⟩) (by simp <;> omega) (by simp)).trans Z0
    have z1' := (hG.cell (p := ⟨w.heap.size + 1 + 1, 1, none⟩) (by simp <;> omega) (by simp)).trans Z1
    have w0' := (hG.cell (p := ⟨w1.heap.size, 0, none⟩) (by simp <;> omega) (by simp)).trans W0
    have w1' := (hG.cell (p := ⟨w1.heap.size, 1, none⟩) (by simp <;> omega) (by simp)).trans W1
    have w2' := (hG.cell (p := ⟨w1.heap.size, 2, none⟩) (by simp <;> omega) (by simp)).trans W2
    have w3' := (hG.cell (p := ⟨w1.heap.size, 3, none⟩) (by simp <;> omega) (by simp)).trans W3

    go_simp
  · intro a u hG hf
    simp [facts, Need.fact, Act.eval] at hf
    have hc := True.intro
    have s0' := (hG.cell (p := ⟨w.heap.size + 1, 0, none⟩) (by simp <;> omega) (by simp)).trans S0
    have s1' := (hG.cell (p := ⟨w.heap.size + 1, 1, none⟩) (by simp <;> omega) (by simp)).trans S1
    have s2' := (hG.cell (p := ⟨w.heap.size + 1, 2, none⟩) (by simp <;> omega) (by simp)).trans S2
    have s3' := (hG.cell (p := ⟨w.heap.size + 1, 3, none⟩) (by simp <;> omega) (by simp)).trans S3
    have z0' := (hG.cell (p := ⟨w.heap.size + 1 + 1, 0, none⟩) (by simp <;> omega) (by simp)).trans Z0
    have z1' := (hG.cell (p := ⟨w.heap.size + 1 + 1, 1, none⟩) (by simp <;> omega) (by simp)).trans Z1
    have w0' := (hG.cell (p := ⟨w1.heap.size, 0, none⟩) (by simp <;> omega) (by simp)).trans W0
    have w1' := (hG.cell (p := ⟨w1.heap.size, 1, none⟩) (by simp <;> omega) (by simp)).trans W1
    have w2' := (hG.cell (p := ⟨w1.heap.size, 2, none⟩) (by simp <;> omega) (by simp)).trans W2
    have w3' := (hG.cell (p := ⟨w1.heap.size, 3, none⟩) (by simp <;> omega) (by simp)).trans W3

    go_simp
  · intro a u _ hf
    simp [facts, Need.fact, Ent.val, Act.eval] at hf
    refine ⟨_, _, by go_simp, (rect_c U0 V0 U1 V1 _).mono ?_⟩
    rintro e w' ⟨rfl, hb⟩
    exact ⟨_, rfl, hb, rfl⟩
  · intro a u _ hf
    simp [facts, Need.fact, Ent.val, Act.eval] at hf
    refine ⟨_, _, by go_simp, (k4 _).mono ?_⟩
    rintro e w' ⟨rfl, hb⟩
    exact ⟨_, rfl, hb, rfl⟩
  · intro a u hG hf
    simp [facts, Need.fact, Act.eval] at hf
    have hc := True.intro
    have s0' := (hG.cell (p := ⟨w.heap.size + 1, 0, none⟩) (by simp <;> omega) (by simp)).trans S0
    have s1' := (hG.cell (p := ⟨w.heap.size + 1, 1, none⟩) (by simp <;> omega) (by simp)).trans S1
    have s2' := (hG.cell (p := ⟨w.heap.size + 1, 2, none⟩) (by simp <;> omega) (by simp)).trans S2
    have s3' := (hG.cell (p := ⟨w.heap.size + 1, 3, none⟩) (by simp <;> omega) (by simp)).trans S3
    have z0' := (hG.cell (p := ⟨w.heap.size + 1 + 1, 0, none⟩) (by simp <;> omega) (by simp)).trans Z0
    have z1' := (hG.cell (p := ⟨w.heap.size + 1 + 1, 1, none⟩) (by simp <;> omega) (by simp)).trans Z1
    have w0' := (hG.cell (p := ⟨w1.heap.size, 0, none⟩) (by simp <;> omega) (by simp)).trans W0
    have w1' := (hG.cell (p := ⟨w1.heap.size, 1, none⟩) (by simp <;> omega) (by simp)).trans W1
    have w2' := (hG.cell (p := ⟨w1.heap.size, 2, none⟩) (by simp <;> omega) (by simp)).trans W2
    have w3' := (hG.cell (p := ⟨w1.heap.size, 3, none⟩) (by simp <;> omega) (by simp)).trans W3

    go_simp
  · intro a u _ hf
    simp [facts, Need.fact, Ent.val, Act.eval] at hf
    refine ⟨_, _, by go_simp, (rem_c (fb X0) (fb Y0) (fb X1) (fb Y1) _).mono ?_⟩
    rintro e w' ⟨rfl, hb⟩
    exact ⟨_, rfl, hb, rfl⟩
  · intro a u hG hf
    simp [facts, Need.fact, Act.eval] at hf
    have hc := True.intro
    have s0' := (hG.cell (p := ⟨w.heap.size + 1, 0, none⟩) (by simp <;> omega) (by simp)).trans S0
    have s1' := (hG.cell (p := ⟨w.heap.size + 1, 1, none⟩) (by simp <;> omega) (by simp)).trans S1
    have s2' := (hG.cell (p := ⟨w.heap.size + 1, 2, none⟩) (by simp <;> omega) (by simp)).trans S2
    have s3' := (hG.cell (p := ⟨w.heap.size + 1, 3, none⟩) (by simp <;> omega) (by simp)).trans S3
    have z0' := (hG.cell (p := ⟨w.heap.size + 1 + 1, 0, none⟩) (by simp <;> omega) (by simp)).trans Z0
    have z1' := (hG.cell (p := ⟨w.heap.size + 1 + 1, 1, none⟩) (by simp <;> omega) (by simp)).trans Z1
    have w0' := (hG.cell (p := ⟨w1.heap.size, 0, none⟩) (by simp <;> omega) (by simp)).trans W0
    have w1' := (hG.cell (p := ⟨w1.heap.size, 1, none⟩) (by simp <;> omega) (by simp)).trans W1
    have w2' := (hG.cell (p := ⟨w1.heap.size, 2, none⟩) (by simp <;> omega) (by simp)).trans W2
    have w3' := (hG.cell (p := ⟨w1.heap.size, 3, none⟩) (by simp <;> omega) (by simp)).trans W3

    go_simp
  · intro a u _ hf
    simp [facts, Need.fact, Ent.val, Act.eval] at hf
    refine ⟨_, _, by go_simp, (k6 _).mono ?_⟩
    rintro e w' ⟨rfl, hb⟩
    exact ⟨_, rfl, hb, rfl⟩
  · intro a u hG hf
    simp [facts, Need.fact, Act.eval] at hf
    have hc := True.intro
    have s0' := (hG.cell (p := ⟨w.heap.size + 1, 0, none⟩) (by simp <;> omega) (by simp)).trans S0
    have s1' := (hG.cell (p := ⟨w.heap.size + 1, 1, none⟩) (by simp <;> omega) (by simp)).trans S1
    have s2' := (hG.cell (p := ⟨w.heap.size + 1, 2, none⟩) (by simp <;> omega) (by simp)).trans S2
    have s3' := (hG.cell (p := ⟨w.heap.size + 1, 3, none⟩) (by simp <;> omega) (by simp)).trans S3
    have z0' := (hG.cell (p := ⟨w.heap.size + 1 + 1, 0, none⟩) (by simp <;> omega) (by simp)).trans Z0
    have z1' := (hG.cell (p := ⟨w.heap.size + 1 + 1, 1, none⟩) (by simp <;> omega) (by simp)).trans Z1
    have w0' := (hG.cell (p := ⟨w1.heap.size, 0, none⟩) (by simp <;> omega) (by simp)).trans W0
    have w1' := (hG.cell (p := ⟨w1.heap.size, 1, none⟩) (by simp <;> omega) (by simp)).trans W1
    have w2' := (hG.cell (p := ⟨w1.heap.size, 2, none⟩) (by simp <;> omega) (by simp)).trans W2
    have w3' := (hG.cell (p := ⟨w1.heap.size, 3, none⟩) (by simp <;> omega) (by simp)).trans W3

    go_simp
  · intro a u _ hf
    simp [facts, Need.fact, Ent.val, Act.eval] at hf
    refine ⟨_, _, by go_simp, (rcx_c (fb X0) (fb Y0) (fb X1) (fb Y1) _).mono ?_⟩
    rintro e w' ⟨rfl, hb⟩
    exact ⟨_, rfl, hb, rfl⟩
  · intro a u hG hf
    simp [facts, Need.fact, Act.eval] at hf
    have hc := True.intro
    have s0' := (hG.cell (p := ⟨w.heap.size + 1, 0, none⟩) (by simp <;> omega) (by simp)).trans S0
    have s1' := (hG.cell (p := ⟨w.heap.size + 1, 1, none⟩) (by simp <;> omega) (by simp)).trans S1
    have s2' := (hG.cell (p := ⟨w.heap.size + 1, 2, none⟩) (by simp <;> omega) (by simp)).trans S2
    have s3' := (hG.cell (p := ⟨w.heap.size + 1, 3, none⟩) (by simp <;> omega) (by simp)).trans S3
    have z0' := (hG.cell (p := ⟨w.heap.size + 1 + 1, 0, none⟩) (by simp <;> omega) (by simp)).trans Z0
    have z1' := (hG.cell (p := ⟨w.heap.size + 1 + 1, 1, none⟩) (by simp <;> omega) (by simp)).trans Z1
    have w0' := (hG.cell (p := ⟨w1.heap.size, 0, none⟩) (by simp <;> omega) (by simp)).trans W0
    have w1' := (hG.cell (p := ⟨w1.heap.size, 1, none⟩) (by simp <;> omega) (by simp)).trans W1
    have w2' := (hG.cell (p := ⟨w1.heap.size, 2, none⟩) (by simp <;> omega) (by simp)).trans W2
    have w3' := (hG.cell (p := ⟨w1.heap.size, 3, none⟩) (by simp <;> omega) (by simp)).trans W3

    go_simp
  · intro a u _ hf
    simp [facts, Need.fact, Ent.val, Act.eval] at hf
    refine ⟨_, _, by go_simp, (rcw_c (fb X0) (fb Y0) (fb X1) (fb Y1) _).mono ?_⟩
    rintro e w' ⟨rfl, hb⟩
    exact ⟨_, rfl, hb, rfl⟩
  · intro a u hG hf
    simp [facts, Need.fact, Act.eval] at hf
    have hc := True.intro
    have s0' := (hG.cell (p := ⟨w.heap.size + 1, 0, none⟩) (by simp <;> omega) (by simp)).trans S0
    have s1' := (hG.cell (p := ⟨w.heap.size + 1, 1, none⟩) (by simp <;> omega) (by simp)).trans S1
    have s2' := (hG.cell (p := ⟨w.heap.size + 1, 2, none⟩) (by simp <;> omega) (by simp)).trans S2
    have s3' := (hG.cell (p := ⟨w.heap.size + 1, 3, none⟩) (by simp <;> omega) (by simp)).trans S3
    have z0' := (hG.cell (p := ⟨w.heap.size + 1 + 1, 0, none⟩) (by simp <;> omega) (by simp)).trans Z0
    have z1' := (hG.cell (p := ⟨w.heap.size + 1 + 1, 1, none⟩) (by simp <;> omega) (by simp)).trans Z1
    have w0' := (hG.cell (p := ⟨w1.heap.size, 0, none⟩) (by simp <;> omega) (by simp)).trans W0
    have w1' := (hG.cell (p := ⟨w1.heap.size, 1, none⟩) (by simp <;> omega) (by simp)).trans W1
    have w2' := (hG.cell (p := ⟨w1.heap.size, 2, none⟩) (by simp <;> omega) (by simp)).trans W2
    have w3' := (hG.cell (p := ⟨w1.heap.size, 3, none⟩) (by simp <;> omega) (by simp)).trans W3

    go_simp
  · intro a u _ hf
    simp [facts, Need.fact, Ent.val, Act.eval] at hf
    refine ⟨_, _, by go_simp, (k9 _).mono ?_⟩
    rintro e w' ⟨rfl, hb⟩
    exact ⟨_, rfl, hb, rfl⟩
  · intro a u _ hf
    simp [facts, Need.fact, Ent.val, Act.eval] at hf
    go_simp
  · intro a u _ _
    go_simp
  intro u l h wc hK hE hI hD
  simp [allE, allPut, Act.put, Act.eval, Ent.filledP, Ent.made, Ent.val] at hE
  obtain ⟨u0, u1, u2, u3, u4, u5, u6, u7, u8, u9, u10, u11, u12, u13, u14, u15, u16, u17, u18, u19, u20, u21, u22, u23, u24, u25, u26, ⟨b27, u27, l27, h27, -⟩, ⟨c28, v28, g28⟩⟩ := hE
  obtain rfl : b27 = c28 := by rw [u27] at v28; simpa using v28
  simp only [allPut, Act.put, u0, u1, u2, u3, u4, u5, u6, u7, u8, u9, u10, u11, u12, u13, u14, u15, u16, u17, u18, u19, u20, u21, u22, u23, u24, u25, u26, u27]
  clear u0 u1 u2 u3 u4 u5 u6 u7 u8 u9 u10 u11 u12 u13 u14 u15 u16 u17 u18 u19 u20 u21 u22 u23 u24 u25 u26 u27 v28
  have hx := (hK.block w1.heap.size (by simp) (by simp)).trans (heap_alloc_new w1 _)
  have r7 := (hK.block (w.heap.size + 1 + 1 + 1) (by simp; omega) (by simp)).trans ((Below.heap_alloc w1 _ _ (by omega)).trans r6)
  have hB2 := Keep.belowX (B := w.heap.size) hK (hB.alloc (by omega) _) (by simp; omega) (by simp)
  have hl := hI 27 (by decide)
  have hl2 : w1.heap.size + 1 ≤ b27 := by have := hl.2; simp at this; omega
  clear hK hI hD r6 hB S0 S1 S2 S3 Z0 Z1 W0 W1 W2 W3 s0 s1 s2 s3 z0 z1 hl l27 h27
  have w0 := cellAt hx 0
  have w1' := cellAt hx 1
  have w2 := cellAt hx 2
  have w3' := cellAt hx 3
  simp only [List.getElem?_toArray, List.getElem?_cons_zero, List.getElem?_cons_succ] at w0 w1' w2 w3'
  go_wp2_with (first | (go_at_call 31; refine Stop.out ?_) | (with_reducible refine stop_region ?_))
  refine ⟨?_⟩
  refine (cen_c e1 e2 e3 e4 _).mono ?_
  rintro e w3 ⟨rfl, hb3⟩
  have g3 := (hb3.block b27 (lt_of_some g28)).trans g28
  have hx3 := (hb3.block w1.heap.size (lt_of_some hx)).trans hx
  have r8 := (hb3.block (w.heap.size + 1 + 1 + 1) (lt_of_some r7)).trans r7
  have hB3 : Below w.heap.size w w3 := hB2.trans (hb3.mono hB2.size)
  have l3 : b27 < w3.heap.size := lt_of_some g3
  clear hb3 g28 hx r7 hB2 w0 w1' w2 w3' k1 k2 k3 k4 k6 k9
  have c9 := cellAt g3 9
  have c10 := cellAt g3 10
  have f9 := frozenAt g3 9
  have f10 := frozenAt g3 10
  simp only [List.getElem?_toArray, List.getElem?_cons_zero, List.getElem?_cons_succ] at c9 c10
  go_wp2_with (with_reducible refine stop_loop ?_)
  refine ⟨?_⟩
  have G4 := set2 (i := 9) (j := 10) (u := .int .i64 (X1 + X0)) (v := .int .i64 (Y1 + Y0)) g3 (.cells #[.float .f64 p1, .float .f64 p2] 50)
  have H4 := set2o (i := 9) (j := 10) (u := .int .i64 (X1 + X0)) (v := .int .i64 (Y1 + Y0)) (w := w3) (b := b27) (.cells #[.float .f64 p1, .float .f64 p2] 50) w1.heap.size (by omega) (lt_of_some hx3)
  have R4' := set2o (i := 9) (j := 10) (u := .int .i64 (X1 + X0)) (v := .int .i64 (Y1 + Y0)) (w := w3) (b := b27) (.cells #[.float .f64 p1, .float .f64 p2] 50) (w.heap.size + 1 + 1 + 1) (by omega) (lt_of_some r8)
  have B4 : Below w.heap.size w (((w3.setCell ⟨b27, 9, none⟩ (.int .i64 (X1 + X0))).setCell ⟨b27, 10, none⟩ (.int .i64 (Y1 + Y0))).alloc (.cells #[.float .f64 p1, .float .f64 p2] 50)) := ((hB3.setCell (by show w.heap.size ≤ b27; omega) _).setCell (by show w.heap.size ≤ b27; omega) _).alloc (by simp; omega) _
  have Z4 : (((w3.setCell ⟨b27, 9, none⟩ (.int .i64 (X1 + X0))).setCell ⟨b27, 10, none⟩ (.int .i64 (Y1 + Y0))).alloc (.cells #[.float .f64 p1, .float .f64 p2] 50)).heap.size = w3.heap.size + 1 := by simp
  rw [hx3] at H4
  rw [r8] at R4'
  generalize ((w3.setCell ⟨b27, 9, none⟩ (.int .i64 (X1 + X0))).setCell ⟨b27, 10, none⟩ (.int .i64 (Y1 + Y0))).alloc (.cells #[.float .f64 p1, .float .f64 p2] 50) = w4 at *
  have hlb : w.heap.size + 1 + 1 + 1 < w1.heap.size := by omega
  clear g3 hx3 r8 hB3 f9 f10 c9 c10 e1 e2 e3 e4 e5 e6 u1 u2
  simp [Array.setIfInBounds] at G4
  go_loopw [10] (fun v10 wr => ∃ k : Nat, k ≤ 5 ∧ v10 = .int .i64 k ∧ ∃ (vp : Value) (xp : List Value), wr.ownsRow (w3.heap.size + 1) 23 2 vp k xp ∧ wr.heap[b27]? = some (.cells #[.bool q1, .bool q2, .bool q3, .bool q4, .bool false, .bool q6, .bool true, .bool false, fl ar, .int .i64 (X1 + X0), .int .i64 (Y1 + Y0), vp, .slice none 0 0] 42 (0, 0)) ∧ wr.heap[w1.heap.size]? = some (.cells #[fl (fb X0), fl (fb Y0), fl (fb X1), fl (fb Y1)] 52 (0, 0)) ∧ wr.heap[w.heap.size + 1 + 1 + 1]? = some (.cells #[.bool false, .bool false, .bool false, .bool false, .bool false, .bool false, .bool false, .bool false, fl 0, .int .i64 0, .int .i64 0, .slice none 0 0, .slice none 0 0] 42 (0, 0)) ∧ Below w.heap.size w wr ∧ w3.heap.size + 1 ≤ wr.heap.size) (fun v _ => 5 - (intOf v).toNat)
  case atStart => exact ⟨0, Nat.zero_le _, rfl, .slice none 0 0, [], World.ownsRow_nil _ _ _ _, G4, H4, R4', B4, by omega⟩
  case round =>
    obtain ⟨k, hk, rfl, vp, xp, o1, G5, H5, R5, B5, Z5⟩ := hrel
    have w0 := cellAt H5 0
    have w1' := cellAt H5 1
    have w2 := cellAt H5 2
    have w3' := cellAt H5 3
    simp only [List.getElem?_toArray, List.getElem?_cons_zero, List.getElem?_cons_succ] at w0 w1' w2 w3'
    clear G4 H4 R4' B4 Z4
    go_wp2_with (first | (go_at_call 32; refine Stop.out ?_) | (with_reducible refine stop_region ?_))
    refine ⟨?_⟩
    refine (rnp_c (fb X0) (fb Y0) (fb X1) (fb Y1) _).mono ?_
    rintro e w5 ⟨rfl, hb5⟩
    have G6 := (hb5.block b27 (lt_of_some G5)).trans G5
    have H6 := (hb5.block w1.heap.size (lt_of_some H5)).trans H5
    have R6 := (hb5.block (w.heap.size + 1 + 1 + 1) (lt_of_some R5)).trans R5
    have O1 := o1.kept (Ext.grown hb5 none) (own_no _)
    have B6 : Below w.heap.size w w5 := B5.trans (hb5.mono B5.size)
    have Z6 : w3.heap.size + 1 ≤ w5.heap.size := Nat.le_trans Z5 hb5.size
    clear hb5 G5 H5 R5 o1 B5 Z5 w0 w1' w2 w3'
    rcases Nat.lt_or_ge k 5 with hlt | hge
    · have hfg := fun g (hg : vp.ownBlock = some g) => O1.lt g hg
      have hbd := ptI_bd k X0 Y0 X1 Y1 (-16384) 16384 (by omega)
      have hnb : b27 ∉ vp.ownBlock.toList := by intro hm; simp at hm; have := (hfg _ hm).1; omega
      have hnx : w1.heap.size ∉ b27 :: vp.ownBlock.toList := by intro hm; simp at hm; rcases hm with hm | hm; omega; have := (hfg _ hm).1; omega
      have hnr : w.heap.size + 1 + 1 + 1 ∉ b27 :: vp.ownBlock.toList := by intro hm; simp at hm; rcases hm with hm | hm; omega; have := (hfg _ hm).1; omega
      obtain ⟨i25, hi, hz0, hz1, hz2⟩ := info_parts infoP'
      go_wp2_with (with_reducible refine stop_region ?_)
      refine ⟨?_⟩
      have W0 := cellAt H6 0
      have W1 := cellAt H6 1
      have W2 := cellAt H6 2
      have W3 := cellAt H6 3
      simp only [List.getElem?_toArray, List.getElem?_cons_zero, List.getElem?_cons_succ] at W0 W1 W2 W3
      refine wp_region_K (b27 :: vp.ownBlock.toList) [.val (.pointer (some ⟨b27, 11, none⟩)), .val vp, .val (.agg #[fl (fb X0), fl (fb Y0), fl (fb X1), fl (fb Y1)]), .val (.int .i64 k), .val (.agg #[fl (fb (ptI k X0 Y0 X1 Y1).1), fl (fb (ptI k X0 Y0 X1 Y1).2)]), .val (.agg #[.int .i64 (ptI k X0 Y0 X1 Y1).1, .int .i64 (ptI k X0 Y0 X1 Y1).2]),
          .slc 23 #[.int .i64 (ptI k X0 Y0 X1 Y1).1, .int .i64 (ptI k X0 Y0 X1 Y1).2], .app vp k xp (w3.heap.size + 1) 23 2 (k + 1) (xp ++ [.int .i64 (ptI k X0 Y0 X1 Y1).1, .int .i64 (ptI k X0 Y0 X1 Y1).2]), .val (.pointer (some ⟨b27, 11, none⟩)), .turnS b27 #[.bool q1, .bool q2, .bool q3, .bool q4, .bool false, .bool q6, .bool true, .bool false, fl ar, .int .i64 (X1 + X0), .int .i64 (Y1 + Y0), vp, .slice none 0 0] 11 67 42]
        [[.ini 8], [.frm 0 60, .til 9], [.ini 7], [.ini 10], [.frm 2 62, .frm 3 63], [.frm 4 64], [.frm 5 65], [.frm 1 61, .frm 6 66, .til 7], [.ini 8], [.frm 8 68, .frm 7 67, .til 9]]
        mixed (by kernel_rfl) (by kernel_rfl) (allPre_of ⟨trivial, trivial, trivial, trivial, trivial, trivial, trivial, O1, trivial, G6, trivial⟩)
        ⟨OpOk.quiet rfl ?_, OpOk.quiet rfl ?_, OpOk.quiet rfl ?_, OpOk.quiet rfl ?_, OpOk.call rfl ?_, OpOk.call rfl ?_, slc_run rfl ?_,
         OpOk.app (inf := i25) rfl rfl Tryz.underlying25 hi hz0 hz1 hz2 rfl (by decide) rfl (by intro u hu; simp at hu; rcases hu with rfl | rfl <;> rfl) (by unfold maxLen; omega) (by omega) Z6 (fun _ hG => hG.size) (fun b hb => (hfg b hb).2)
           (fun b hb => ⟨row_still rfl, row_still rfl, row_still rfl, row_still rfl, row_still rfl, row_still rfl, row_none rfl (fun h => (nomatch h)), row_self rfl, row_still rfl, row_turnS (by have := (hfg b hb).1; omega), trivial⟩)
           (fun b hb => oldFree_of ⟨.inr (fun h => (nomatch h)), .inr (fun h => (nomatch h)), .inr (fun h => (nomatch h)), .inr (fun h => (nomatch h)), .inr (fun h => (nomatch h)), .inr (fun h => (nomatch h)), .inr (fun h => (nomatch h)), .inl rfl, .inr (fun h => (nomatch h)), .inr (by have := (hfg b hb).1; simp [Ent.turnS]; omega), trivial⟩)
           ?_ (fun _ b _ hb h => Keep.setRow h (.inr (by simp [hb]))), OpOk.quiet rfl ?_,
         OpOk.turnS rfl rfl (lt_of_some G6) ⟨row_still rfl, row_still rfl, row_still rfl, row_still rfl, row_still rfl, row_still rfl, row_none rfl (fun h => (nomatch h)), row_none rfl hnb, row_still rfl, row_self rfl, trivial⟩
           (oldFree_of ⟨.inr (fun h => (nomatch h)), .inr (fun h => (nomatch h)), .inr (fun h => (nomatch h)), .inr (fun h => (nomatch h)), .inr (fun h => (nomatch h)), .inr (fun h => (nomatch h)), .inr (fun h => (nomatch h)), .inr hnb, .inr (fun h => (nomatch h)), .inl rfl, trivial⟩)
           (by kernel_rfl) (by simp) ?_ (fun _ _ h => Keep.setRow h (.inr (by simp))), trivial⟩ ?_
      · intro a u _ hf
        simp [facts, Need.fact, Act.eval] at hf
        go_simp
      · intro a u _ hf
        obtain ⟨⟨_, _, f1⟩, f2, -⟩ := hf
        have f1' : a.eval (.tmp 60) = .pointer (some ⟨b27, 11, none⟩) := f1
        have c11 := cellAt (show u.heap[b27]? = some (.cells #[.bool q1, .bool q2, .bool q3, .bool q4, .bool false, .bool q6, .bool true, .bool false, fl ar, .int .i64 (X1 + X0), .int .i64 (Y1 + Y0), vp, .slice none 0 0] 42 (0, 0)) from f2) 11
        simp only [List.getElem?_toArray, List.getElem?_cons_zero, List.getElem?_cons_succ] at c11
        clear f1 f2
        simp [Act.eval] at f1'
        go_simp
      · intro a u hG hf
        have f1 : a.eval (.tmp 7) = .pointer (some ⟨w1.heap.size, 0, none⟩) := hf.1
        have w0' := (hG.cell (p := ⟨w1.heap.size, 0, none⟩) (lt_of_some H6) hnx).trans W0
        have w1' := (hG.cell (p := ⟨w1.heap.size, 1, none⟩) (lt_of_some H6) hnx).trans W1
        have w2' := (hG.cell (p := ⟨w1.heap.size, 2, none⟩) (lt_of_some H6) hnx).trans W2
        have w3' := (hG.cell (p := ⟨w1.heap.size, 3, none⟩) (lt_of_some H6) hnx).trans W3
        clear hf
        simp [Act.eval] at f1
        go_simp
      · intro a u _ hf
        simp [facts, Need.fact, Act.eval] at hf
        go_simp
      · intro a u _ hf
        simp [facts, Need.fact, Ent.val, Act.eval] at hf
        refine ⟨_, _, by go_simp, (patk_c k hlt X0 Y0 X1 Y1 _).mono ?_⟩
        rintro e w' ⟨rfl, hb⟩
        exact ⟨_, rfl, hb, rfl⟩
      · intro a u _ hf
        simp [facts, Need.fact, Ent.val, Act.eval] at hf
        refine ⟨_, _, by go_simp, (from_c (fb_rep (ptI k X0 Y0 X1 Y1).1 (by omega)) (fb_rep (ptI k X0 Y0 X1 Y1).2 (by omega)) _).mono ?_⟩
        rintro e w' ⟨rfl, hb⟩
        exact ⟨_, rfl, hb, rfl⟩
      · intro a u _ hf
        simp [facts, Need.fact, Ent.val, Act.eval] at hf
        go_simp
      · intro a u _ hf
        obtain ⟨⟨_, _, f1⟩, ⟨_, _, b, f2, _, _, f3⟩, f4, -⟩ := hf
        exact ⟨f1, f4, ⟨b, 0, none⟩, 1, f2, row_cells f3⟩
      · intro a u _ hf
        simp [facts, Need.fact, Act.eval] at hf
        go_simp
      · intro a u _ hf
        obtain ⟨⟨_, _, f1⟩, ⟨_, _, f2, f5⟩, f4, -⟩ := hf
        exact ⟨f1, own_one f2, f4⟩
      · intro uu l h wc hK hE hI hD
        obtain ⟨v0, v1, v2, v3, v4, v5, ⟨b6, v6, -, -, -⟩, ⟨o7, -⟩, v8, e9, -⟩ := hE
        replace v0 : uu 0 = .pointer (some ⟨b27, 11, none⟩) := v0
        replace v1 : uu 1 = vp := v1
        replace v2 : uu 2 = .agg #[fl (fb X0), fl (fb Y0), fl (fb X1), fl (fb Y1)] := v2
        replace v3 : uu 3 = .int .i64 k := v3
        replace v4 : uu 4 = .agg #[fl (fb (ptI k X0 Y0 X1 Y1).1), fl (fb (ptI k X0 Y0 X1 Y1).2)] := v4
        replace v5 : uu 5 = .agg #[.int .i64 (ptI k X0 Y0 X1 Y1).1, .int .i64 (ptI k X0 Y0 X1 Y1).2] := v5
        replace v8 : uu 8 = .pointer (some ⟨b27, 11, none⟩) := v8
        simp [Ent.turnS, allPut, Act.put, Act.eval, Array.setIfInBounds] at e9
        have H' := (hK.block w1.heap.size (lt_of_some H6) hnx).trans H6
        have R' := (hK.block (w.heap.size + 1 + 1 + 1) (lt_of_some R6) hnr).trans R6
        have B' := Keep.belowX (B := w.heap.size) hK B6 B6.size (by intro x hx; simp at hx; rcases hx with hx | hx; omega; have := (hfg _ hx).1; omega)
        have Z' : w3.heap.size + 1 ≤ wc.heap.size := Nat.le_trans Z6 hK.size
        simp only [allPut, Act.put, v0, v1, v2, v3, v4, v5, v6, v8]
        generalize uu 7 = v7 at *
        clear v0 v1 v2 v3 v4 v5 v6 v8 hK hI hD W0 W1 W2 W3 G6 H6 R6 O1 B6 Z6 hfg hnb hnx hnr
        go_wp2
        go_roundw
        case rel => exact ⟨k + 1, by omega, by go_num, v7, _, o7, e9, H', R', B', Z'⟩
        case measure => simp [intOf]; omega
    · have hk5 : k = 5 := by omega
      subst hk5
      obtain ⟨g5, cp, rfl⟩ := own_slice O1 (by decide)
      clear O1
      go_wp2_with (with_reducible refine stop_loop ?_)
      refine ⟨?_⟩
      go_loopw [11] (fun v11 wr => ∃ k : Nat, k ≤ 4 ∧ v11 = .int .i64 k ∧ ∃ (vs : Value) (xs : List Value), wr.ownsRow (w3.heap.size + 1) 24 4 vs k xs ∧ wr.heap[b27]? = some (.cells #[.bool q1, .bool q2, .bool q3, .bool q4, .bool false, .bool q6, .bool true, .bool false, fl ar, .int .i64 (X1 + X0), .int .i64 (Y1 + Y0), .slice (some g5) 5 cp, vs] 42 (0, 0)) ∧ wr.heap[w1.heap.size]? = some (.cells #[fl (fb X0), fl (fb Y0), fl (fb X1), fl (fb Y1)] 52 (0, 0)) ∧ wr.heap[w.heap.size + 1 + 1 + 1]? = some (.cells #[.bool false, .bool false, .bool false, .bool false, .bool false, .bool false, .bool false, .bool false, fl 0, .int .i64 0, .int .i64 0, .slice none 0 0, .slice none 0 0] 42 (0, 0)) ∧ Below w.heap.size w wr ∧ w3.heap.size + 1 ≤ wr.heap.size) (fun v _ => 4 - (intOf v).toNat)
      case atStart => exact ⟨0, Nat.zero_le _, rfl, .slice none 0 0, [], World.ownsRow_nil _ _ _ _, G6, H6, R6, B6, Z6⟩
      case round =>
        obtain ⟨k, hk, rfl, vs, xs, o1, G5, H5, R5, B5, Z5⟩ := hrel
        have w0 := cellAt H5 0
        have w1' := cellAt H5 1
        have w2 := cellAt H5 2
        have w3' := cellAt H5 3
        simp only [List.getElem?_toArray, List.getElem?_cons_zero, List.getElem?_cons_succ] at w0 w1' w2 w3'
        clear G6 H6 R6 B6 Z6
        go_wp2_with (first | (go_at_call 35; refine Stop.out ?_) | (with_reducible refine stop_region ?_))
        refine ⟨?_⟩
        refine (rns_c (fb X0) (fb Y0) (fb X1) (fb Y1) _).mono ?_
        rintro e w6 ⟨rfl, hb5⟩
        have G6 := (hb5.block b27 (lt_of_some G5)).trans G5
        have H6 := (hb5.block w1.heap.size (lt_of_some H5)).trans H5
        have R6 := (hb5.block (w.heap.size + 1 + 1 + 1) (lt_of_some R5)).trans R5
        have O1 := o1.kept (Ext.grown hb5 none) (own_no _)
        have B6 : Below w.heap.size w w6 := B5.trans (hb5.mono B5.size)
        have Z6 : w3.heap.size + 1 ≤ w6.heap.size := Nat.le_trans Z5 hb5.size
        have W0 := cellAt H6 0
        have W1 := cellAt H6 1
        have W2 := cellAt H6 2
        have W3 := cellAt H6 3
        simp only [List.getElem?_toArray, List.getElem?_cons_zero, List.getElem?_cons_succ] at W0 W1 W2 W3
        clear hb5 G5 H5 R5 o1 B5 Z5 w0 w1' w2 w3'
        rcases Nat.lt_or_ge k 4 with hlt | hge
        · go_wp2_with (first | (go_at_call 36; refine Stop.out ?_) | (with_reducible refine stop_region ?_))
          refine ⟨?_⟩
          refine (satk_c k hlt X0 Y0 X1 Y1 _).mono ?_
          rintro e w7 ⟨rfl, hb6⟩
          have G7 := (hb6.block b27 (lt_of_some G6)).trans G6
          have H7 := (hb6.block w1.heap.size (lt_of_some H6)).trans H6
          have R7 := (hb6.block (w.heap.size + 1 + 1 + 1) (lt_of_some R6)).trans R6
          have O2 := O1.kept (Ext.grown hb6 none) (own_no _)
          have B7 : Below w.heap.size w w7 := B6.trans (hb6.mono B6.size)
          have Z7 : w3.heap.size + 1 ≤ w7.heap.size := Nat.le_trans Z6 hb6.size
          clear hb6 G6 H6 R6 O1 B6 Z6 W0 W1 W2 W3
          go_wp2_with (with_reducible refine stop_region ?_)
          refine ⟨?_⟩
          have hfg := fun g (hg : vs.ownBlock = some g) => O2.lt g hg
          have hbd := ptI_bd k X0 Y0 X1 Y1 (-16384) 16384 (by omega)
          have hbe := ptI_bd (k + 1) X0 Y0 X1 Y1 (-16384) 16384 (by omega)
          have hnb : b27 ∉ vs.ownBlock.toList := by intro hm; simp at hm; have := (hfg _ hm).1; omega
          have hnx : w1.heap.size ∉ b27 :: vs.ownBlock.toList := by intro hm; simp at hm; rcases hm with hm | hm; omega; have := (hfg _ hm).1; omega
          have hnr : w.heap.size + 1 + 1 + 1 ∉ b27 :: vs.ownBlock.toList := by intro hm; simp at hm; rcases hm with hm | hm; omega; have := (hfg _ hm).1; omega
          have hns : w7.heap.size ∉ b27 :: vs.ownBlock.toList := by intro hm; simp at hm; rcases hm with hm | hm; omega; have := (hfg _ hm).2; omega
          have hsz8 : (w7.alloc (.cells #[fl (fb (ptI k X0 Y0 X1 Y1).1), fl (fb (ptI k X0 Y0 X1 Y1).2), fl (fb (ptI (k + 1) X0 Y0 X1 Y1).1), fl (fb (ptI (k + 1) X0 Y0 X1 Y1).2)] 73)).heap.size = w7.heap.size + 1 := by simp
          have G8 : (w7.alloc (.cells #[fl (fb (ptI k X0 Y0 X1 Y1).1), fl (fb (ptI k X0 Y0 X1 Y1).2), fl (fb (ptI (k + 1) X0 Y0 X1 Y1).1), fl (fb (ptI (k + 1) X0 Y0 X1 Y1).2)] 73)).heap[b27]? = _ := (Below.heap_alloc w7 _ _ (lt_of_some G7)).trans G7
          have H8 : (w7.alloc (.cells #[fl (fb (ptI k X0 Y0 X1 Y1).1), fl (fb (ptI k X0 Y0 X1 Y1).2), fl (fb (ptI (k + 1) X0 Y0 X1 Y1).1), fl (fb (ptI (k + 1) X0 Y0 X1 Y1).2)] 73)).heap[w1.heap.size]? = _ := (Below.heap_alloc w7 _ _ (lt_of_some H7)).trans H7
          have R8 : (w7.alloc (.cells #[fl (fb (ptI k X0 Y0 X1 Y1).1), fl (fb (ptI k X0 Y0 X1 Y1).2), fl (fb (ptI (k + 1) X0 Y0 X1 Y1).1), fl (fb (ptI (k + 1) X0 Y0 X1 Y1).2)] 73)).heap[w.heap.size + 1 + 1 + 1]? = _ := (Below.heap_alloc w7 _ _ (lt_of_some R7)).trans R7
          have S8 := heap_alloc_new w7 (.cells #[fl (fb (ptI k X0 Y0 X1 Y1).1), fl (fb (ptI k X0 Y0 X1 Y1).2), fl (fb (ptI (k + 1) X0 Y0 X1 Y1).1), fl (fb (ptI (k + 1) X0 Y0 X1 Y1).2)] 73)
          have O3 := O2.alloc (.cells #[fl (fb (ptI k X0 Y0 X1 Y1).1), fl (fb (ptI k X0 Y0 X1 Y1).2), fl (fb (ptI (k + 1) X0 Y0 X1 Y1).1), fl (fb (ptI (k + 1) X0 Y0 X1 Y1).2)] 73)
          have B8 : Below w.heap.size w (w7.alloc (.cells #[fl (fb (ptI k X0 Y0 X1 Y1).1), fl (fb (ptI k X0 Y0 X1 Y1).2), fl (fb (ptI (k + 1) X0 Y0 X1 Y1).1), fl (fb (ptI (k + 1) X0 Y0 X1 Y1).2)] 73)) := B7.alloc B7.size _
          have W0 := cellAt S8 0
          have W1 := cellAt S8 1
          have W2 := cellAt S8 2
          have W3 := cellAt S8 3
          simp only [List.getElem?_toArray, List.getElem?_cons_zero, List.getElem?_cons_succ] at W0 W1 W2 W3
          obtain ⟨i26, hi, hz0, hz1, hz2⟩ := info_parts infoA'
          generalize w7.alloc (.cells #[fl (fb (ptI k X0 Y0 X1 Y1).1), fl (fb (ptI k X0 Y0 X1 Y1).2), fl (fb (ptI (k + 1) X0 Y0 X1 Y1).1), fl (fb (ptI (k + 1) X0 Y0 X1 Y1).2)] 73) = w8 at *
          generalize hbs : w7.heap.size = bs at *
          clear G7 H7 R7 O2 B7
          refine wp_region_K (b27 :: vs.ownBlock.toList) [.val (.pointer (some ⟨b27, 12, none⟩)), .val vs, .val (.pointer (some ⟨bs, 0, none⟩)), .val (.agg #[fl (fb (ptI k X0 Y0 X1 Y1).1), fl (fb (ptI k X0 Y0 X1 Y1).2)]), .val (.agg #[.int .i64 (ptI k X0 Y0 X1 Y1).1, .int .i64 (ptI k X0 Y0 X1 Y1).2]), .val (.pointer (some ⟨bs, 2, none⟩)), .val (.agg #[fl (fb (ptI (k + 1) X0 Y0 X1 Y1).1), fl (fb (ptI (k + 1) X0 Y0 X1 Y1).2)]), .val (.agg #[.int .i64 (ptI (k + 1) X0 Y0 X1 Y1).1, .int .i64 (ptI (k + 1) X0 Y0 X1 Y1).2]), .val (.agg #[.int .i64 (ptI k X0 Y0 X1 Y1).1, .int .i64 (ptI k X0 Y0 X1 Y1).2, .int .i64 (ptI (k + 1) X0 Y0 X1 Y1).1, .int .i64 (ptI (k + 1) X0 Y0 X1 Y1).2]),
              .slc 24 #[.int .i64 (ptI k X0 Y0 X1 Y1).1, .int .i64 (ptI k X0 Y0 X1 Y1).2, .int .i64 (ptI (k + 1) X0 Y0 X1 Y1).1, .int .i64 (ptI (k + 1) X0 Y0 X1 Y1).2], .app vs k xs (w3.heap.size + 1) 24 4 (k + 1) (xs ++ [.int .i64 (ptI k X0 Y0 X1 Y1).1, .int .i64 (ptI k X0 Y0 X1 Y1).2, .int .i64 (ptI (k + 1) X0 Y0 X1 Y1).1, .int .i64 (ptI (k + 1) X0 Y0 X1 Y1).2]), .val (.pointer (some ⟨b27, 12, none⟩)), .turnS b27 #[.bool q1, .bool q2, .bool q3, .bool q4, .bool false, .bool q6, .bool true, .bool false, fl ar, .int .i64 (X1 + X0), .int .i64 (Y1 + Y0), .slice (some g5) 5 cp, vs] 12 88 42]
            [[.ini 8], [.frm 0 78, .til 12], [.ini 12], [.frm 2 80], [.frm 3 81], [.ini 12], [.frm 5 83], [.frm 6 84], [.frm 4 82, .frm 7 85], [.frm 8 86], [.frm 1 79, .frm 9 87, .til 10], [.ini 8], [.frm 11 89, .frm 10 88, .til 12]]
            mixed (by kernel_rfl) (by kernel_rfl) (allPre_of ⟨trivial, trivial, trivial, trivial, trivial, trivial, trivial, trivial, trivial, trivial, O3, trivial, G8, trivial⟩)
            ⟨OpOk.quiet rfl ?_, OpOk.quiet rfl ?_, OpOk.quiet rfl ?_, OpOk.quiet rfl ?_, OpOk.call rfl ?_, OpOk.quiet rfl ?_, OpOk.quiet rfl ?_, OpOk.call rfl ?_, OpOk.quiet rfl ?_, slc_run rfl ?_,
             OpOk.app (inf := i26) rfl rfl Tryz.underlying40 hi hz0 hz1 hz2 rfl (by decide) rfl (by intro u hu; simp at hu; rcases hu with rfl | rfl | rfl | rfl <;> rfl) (by unfold maxLen; omega) (by omega) (by omega) (fun _ hG => hG.size) (fun b hb => by have := (hfg b hb).2; omega)
               (fun b hb => ⟨row_still rfl, row_still rfl, row_still rfl, row_still rfl, row_still rfl, row_still rfl, row_still rfl, row_still rfl, row_still rfl, row_none rfl (fun h => (nomatch h)), row_self rfl, row_still rfl, row_turnS (by have := (hfg b hb).1; omega), trivial⟩)
               (fun b hb => oldFree_of ⟨.inr (fun h => (nomatch h)), .inr (fun h => (nomatch h)), .inr (fun h => (nomatch h)), .inr (fun h => (nomatch h)), .inr (fun h => (nomatch h)), .inr (fun h => (nomatch h)), .inr (fun h => (nomatch h)), .inr (fun h => (nomatch h)), .inr (fun h => (nomatch h)), .inr (fun h => (nomatch h)), .inl rfl, .inr (fun h => (nomatch h)), .inr (by have := (hfg b hb).1; simp [Ent.turnS]; omega), trivial⟩)
               ?_ (fun _ b _ hb h => Keep.setRow h (.inr (by simp [hb]))), OpOk.quiet rfl ?_,
             OpOk.turnS rfl rfl (lt_of_some G8) ⟨row_still rfl, row_still rfl, row_still rfl, row_still rfl, row_still rfl, row_still rfl, row_still rfl, row_still rfl, row_still rfl, row_none rfl (fun h => (nomatch h)), row_none rfl hnb, row_still rfl, row_self rfl, trivial⟩
               (oldFree_of ⟨.inr (fun h => (nomatch h)), .inr (fun h => (nomatch h)), .inr (fun h => (nomatch h)), .inr (fun h => (nomatch h)), .inr (fun h => (nomatch h)), .inr (fun h => (nomatch h)), .inr (fun h => (nomatch h)), .inr (fun h => (nomatch h)), .inr (fun h => (nomatch h)), .inr (fun h => (nomatch h)), .inr hnb, .inr (fun h => (nomatch h)), .inl rfl, trivial⟩)
               (by kernel_rfl) (by simp) ?_ (fun _ _ h => Keep.setRow h (.inr (by simp))), trivial⟩ ?_
          · intro a u _ hf
            simp [facts, Need.fact, Act.eval] at hf
            go_simp
          · intro a u _ hf
            obtain ⟨⟨_, _, f1⟩, f2, -⟩ := hf
            have f1' : a.eval (.tmp 78) = .pointer (some ⟨b27, 12, none⟩) := f1
            have c11 := cellAt (show u.heap[b27]? = some (.cells #[.bool q1, .bool q2, .bool q3, .bool q4, .bool false, .bool q6, .bool true, .bool false, fl ar, .int .i64 (X1 + X0), .int .i64 (Y1 + Y0), .slice (some g5) 5 cp, vs] 42 (0, 0)) from f2) 12
            simp only [List.getElem?_toArray, List.getElem?_cons_zero, List.getElem?_cons_succ] at c11
            clear f1 f2
            simp [Act.eval] at f1'
            go_simp
          · intro a u _ hf
            simp [facts, Need.fact, Act.eval] at hf
            go_simp
          · intro a u hG hf
            simp [facts, Need.fact, Ent.val, Act.eval] at hf
            have w0' := (hG.cell (p := ⟨bs, 0, none⟩) (lt_of_some S8) hns).trans W0
            have w1' := (hG.cell (p := ⟨bs, 1, none⟩) (lt_of_some S8) hns).trans W1
            go_simp
          · intro a u _ hf
            simp [facts, Need.fact, Ent.val, Act.eval] at hf
            refine ⟨_, _, by go_simp, (from_c (fb_rep (ptI k X0 Y0 X1 Y1).1 (by omega)) (fb_rep (ptI k X0 Y0 X1 Y1).2 (by omega)) _).mono ?_⟩
            rintro e w' ⟨rfl, hb⟩
            exact ⟨_, rfl, hb, rfl⟩
          · intro a u _ hf
            simp [facts, Need.fact, Act.eval] at hf
            go_simp
          · intro a u hG hf
            simp [facts, Need.fact, Ent.val, Act.eval] at hf
            have w0' := (hG.cell (p := ⟨bs, 2, none⟩) (lt_of_some S8) hns).trans W2
            have w1' := (hG.cell (p := ⟨bs, 3, none⟩) (lt_of_some S8) hns).trans W3
            go_simp
          · intro a u _ hf
            simp [facts, Need.fact, Ent.val, Act.eval] at hf
            refine ⟨_, _, by go_simp, (from_c (fb_rep (ptI (k + 1) X0 Y0 X1 Y1).1 (by omega)) (fb_rep (ptI (k + 1) X0 Y0 X1 Y1).2 (by omega)) _).mono ?_⟩
            rintro e w' ⟨rfl, hb⟩
            exact ⟨_, rfl, hb, rfl⟩
          · intro a u _ hf
            simp [facts, Need.fact, Ent.val, Act.eval] at hf
            go_simp
          · intro a u _ hf
            simp [facts, Need.fact, Ent.val, Act.eval] at hf
            go_simp
          · intro a u _ hf
            obtain ⟨⟨_, _, f1⟩, ⟨_, _, b, f2, _, _, f3⟩, f4, -⟩ := hf
            exact ⟨f1, f4, ⟨b, 0, none⟩, 1, f2, row_cells f3⟩
          · intro a u _ hf
            simp [facts, Need.fact, Act.eval] at hf
            go_simp
          · intro a u _ hf
            obtain ⟨⟨_, _, f1⟩, ⟨_, _, f2, f5⟩, f4, -⟩ := hf
            exact ⟨f1, own_one f2, f4⟩
          · intro uu l h wc hK hE hI hD
            obtain ⟨v0, v1, v2, v3, v4, v5, v6, v7, v8, ⟨b6, v9, -, -, -⟩, ⟨o7, -⟩, v11, e9, -⟩ := hE
            replace v0 : uu 0 = .pointer (some ⟨b27, 12, none⟩) := v0
            replace v1 : uu 1 = vs := v1
            replace v2 : uu 2 = .pointer (some ⟨bs, 0, none⟩) := v2
            replace v3 : uu 3 = .agg #[fl (fb (ptI k X0 Y0 X1 Y1).1), fl (fb (ptI k X0 Y0 X1 Y1).2)] := v3
            replace v4 : uu 4 = .agg #[.int .i64 (ptI k X0 Y0 X1 Y1).1, .int .i64 (ptI k X0 Y0 X1 Y1).2] := v4
            replace v5 : uu 5 = .pointer (some ⟨bs, 2, none⟩) := v5
            replace v6 : uu 6 = .agg #[fl (fb (ptI (k + 1) X0 Y0 X1 Y1).1), fl (fb (ptI (k + 1) X0 Y0 X1 Y1).2)] := v6
            replace v7 : uu 7 = .agg #[.int .i64 (ptI (k + 1) X0 Y0 X1 Y1).1, .int .i64 (ptI (k + 1) X0 Y0 X1 Y1).2] := v7
            replace v8 : uu 8 = .agg #[.int .i64 (ptI k X0 Y0 X1 Y1).1, .int .i64 (ptI k X0 Y0 X1 Y1).2, .int .i64 (ptI (k + 1) X0 Y0 X1 Y1).1, .int .i64 (ptI (k + 1) X0 Y0 X1 Y1).2] := v8
            replace v11 : uu 11 = .pointer (some ⟨b27, 12, none⟩) := v11
            simp [Ent.turnS, allPut, Act.put, Act.eval, Array.setIfInBounds] at e9
            have H' := (hK.block w1.heap.size (lt_of_some H8) hnx).trans H8
            have R' := (hK.block (w.heap.size + 1 + 1 + 1) (lt_of_some R8) hnr).trans R8
            have B' := Keep.belowX (B := w.heap.size) hK B8 B8.size (by intro x hx; simp at hx; rcases hx with hx | hx; omega; have := (hfg _ hx).1; omega)
            have Z' : w3.heap.size + 1 ≤ wc.heap.size := by have := hK.size; omega
            simp only [allPut, Act.put, v0, v1, v2, v3, v4, v5, v6, v7, v8, v9, v11]
            generalize uu 10 = v10 at *
            clear v0 v1 v2 v3 v4 v5 v6 v7 v8 v9 v11 hK hI hD W0 W1 W2 W3 G8 H8 R8 O3 B8 S8 hfg hnb hnx hnr hns
            go_wp2
            go_roundw
            case rel => exact ⟨k + 1, by omega, by go_num, v10, _, o7, e9, H', R', B', Z'⟩
            case measure => simp [intOf]; omega
        · have hk4 : k = 4 := by omega
          subst hk4
          obtain ⟨g4, cs4, rfl⟩ := own_slice O1 (by decide)
          clear O1 W0 W1 W2 W3 H6
          have y0 := cellAt G6 0
          have z0 := cellAt R6 0
          have f0 := frozenAt R6 0
          have y1 := cellAt G6 1
          have z1 := cellAt R6 1
          have f1 := frozenAt R6 1
          have y2 := cellAt G6 2
          have z2 := cellAt R6 2
          have f2 := frozenAt R6 2
          have y3 := cellAt G6 3
          have z3 := cellAt R6 3
          have f3 := frozenAt R6 3
          have y4 := cellAt G6 4
          have z4 := cellAt R6 4
          have f4 := frozenAt R6 4
          have y5 := cellAt G6 5
          have z5 := cellAt R6 5
          have f5 := frozenAt R6 5
          have y6 := cellAt G6 6
          have z6 := cellAt R6 6
          have f6 := frozenAt R6 6
          have y7 := cellAt G6 7
          have z7 := cellAt R6 7
          have f7 := frozenAt R6 7
          have y8 := cellAt G6 8
          have z8 := cellAt R6 8
          have f8 := frozenAt R6 8
          have y9 := cellAt G6 9
          have z9 := cellAt R6 9
          have f9 := frozenAt R6 9
          have y10 := cellAt G6 10
          have z10 := cellAt R6 10
          have f10 := frozenAt R6 10
          have y11 := cellAt G6 11
          have z11 := cellAt R6 11
          have f11 := frozenAt R6 11
          have y12 := cellAt G6 12
          have z12 := cellAt R6 12
          have f12 := frozenAt R6 12
          simp only [List.getElem?_toArray, List.getElem?_cons_zero, List.getElem?_cons_succ] at y0 z0 y1 z1 y2 z2 y3 z3 y4 z4 y5 z5 y6 z6 y7 z7 y8 z8 y9 z9 y10 z10 y11 z11 y12 z12
          have l6 : w.heap.size + 1 + 1 + 1 < w6.heap.size := lt_of_some R6
          clear G6 R6
          go_wp2
          exact bodyPost_ret (v := .agg #[.bool q1, .bool q2, .bool q3, .bool q4, .bool false, .bool q6, .bool true, .bool false, fl ar, .int .i64 (X1 + X0), .int .i64 (Y1 + Y0), .slice (some g5) 5 cp, .slice (some g4) 4 cs4]) (by simp [results, Tryz.results13, go_sem, z0, z1, z2, z3, z4, z5, z6, z7, z8, z9, z10, z11, z12]) rfl ⟨some g5, some g4, cp, cs4, rfl, by
            iterate 13 refine Below.setCell ?_ (by show w.heap.size ≤ w.heap.size + 1 + 1 + 1; omega) _
            exact B6⟩


theorem rectAsk_c (X0 Y0 X1 Y1 U0 V0 U1 V1 PX PY : Int) (bd : -16384 ≤ X0 ∧ X0 ≤ 16384 ∧ -16384 ≤ Y0 ∧ Y0 ≤ 16384 ∧ -16384 ≤ X1 ∧ X1 ≤ 16384 ∧ -16384 ≤ Y1 ∧ Y1 ≤ 16384)
    (bu : -16384 ≤ U0 ∧ U0 ≤ 16384 ∧ -16384 ≤ V0 ∧ V0 ≤ 16384 ∧ -16384 ≤ U1 ∧ U1 ≤ 16384 ∧ -16384 ≤ V1 ∧ V1 ≤ 16384) (bp : -16384 ≤ PX ∧ PX ≤ 16384 ∧ -16384 ≤ PY ∧ PY ≤ 16384) :
    ∃ ar : Nat, Rep ar ((X1 - X0) * (Y1 - Y0)) ∧ ∀ w : World, Calls Tryz.prog 13 #[.agg #[.int .i64 X0, .int .i64 Y0, .int .i64 X1, .int .i64 Y1], .agg #[.int .i64 U0, .int .i64 V0, .int .i64 U1, .int .i64 V1], .agg #[.int .i64 PX, .int .i64 PY]] w fun e w' => ∃ (vp vs : Option Addr) (cp cs : Nat),
      e = .returned (.agg #[.bool (decide (X0 ≤ PX ∧ PX ≤ X1 ∧ Y0 ≤ PY ∧ PY ≤ Y1)), .bool (decide (X0 ≤ PX ∧ PX ≤ X1 ∧ Y0 ≤ PY ∧ PY ≤ Y1)), .bool (decide (X0 ≤ U0 ∧ U1 ≤ X1 ∧ Y0 ≤ V0 ∧ V1 ≤ Y1)), .bool (decide (X0 ≤ U1 ∧ U0 ≤ X1 ∧ Y0 ≤ V1 ∧ V0 ≤ Y1)), .bool false,
        .bool (decide (-180 ≤ X0 ∧ X0 ≤ 180 ∧ -90 ≤ Y0 ∧ Y0 ≤ 90 ∧ -180 ≤ X1 ∧ X1 ≤ 180 ∧ -90 ≤ Y1 ∧ Y1 ≤ 90)), .bool true, .bool false, fl ar, .int .i64 (X1 + X0), .int .i64 (Y1 + Y0), .slice vp 5 cp, .slice vs 4 cs]) ∧ Below w.heap.size w w' := by
  have a1 := fb_rep X0 (by omega)
  have a2 := fb_rep Y0 (by omega)
  have a3 := fb_rep X1 (by omega)
  have a4 := fb_rep Y1 (by omega)
  have c1 := fb_rep U0 (by omega)
  have c2 := fb_rep V0 (by omega)
  have c3 := fb_rep U1 (by omega)
  have c4 := fb_rep V1 (by omega)
  have p1 := fb_rep PX (by omega)
  have p2 := fb_rep PY (by omega)
  have hm := bmul (a := X1 - X0) (b := Y1 - Y0) (by omega) (by omega)
  obtain ⟨d1, e1, r1⟩ := subR a3 a1 (by omega)
  obtain ⟨d2, e2, r2⟩ := subR a4 a2 (by omega)
  obtain ⟨m, e3, r3⟩ := mulR r1 r2 (by omega)
  exact ⟨m, r3, fun w => rectAsk_core X0 Y0 X1 Y1 U0 V0 U1 V1 PX PY _ _ _ _ _ m (fun u => rcp_c a1 a2 a3 a4 p1 p2 u) (fun u => rip_c a1 a2 a3 a4 p1 p2 u) (fun u => rcr_c a1 a2 a3 a4 c1 c2 c3 c4 u) (fun u => rir_c a1 a2 a3 a4 c1 c2 c3 c4 u)
    (fun u => rval_c a1 a2 a3 a4 u) (fun u => area_c e1 e2 e3 u) bd w⟩
end Go.Proofs.YtlpibeloedfbdaaGreat
