import Derived.Test.YtdhljiediafeoaaEu
set_option linter.unusedSimpArgs false
set_option linter.unusedVariables false
/-! The r-tree of few segments, exactly. -/
namespace PF
open Go Go.RowKit JR
def Bd4 (a b c d : Int) : Prop := a.natAbs ≤ 1000000 ∧ b.natAbs ≤ 1000000 ∧ c.natAbs ≤ 1000000 ∧ d.natAbs ≤ 1000000
theorem lt_fb {b a : Int} (hb : b.natAbs ≤ 1000000) (ha : a.natAbs ≤ 1000000) : (FloatKind.f64.format.order (fb b) (fb a) == some .lt) = decide (b < a) := by
  rw [oR (fb_rep b (by omega)) (fb_rep a (by omega)), Bool.eq_iff_iff]
  simp [icmp_lt]
theorem gt_fb {b a : Int} (hb : b.natAbs ≤ 1000000) (ha : a.natAbs ≤ 1000000) : (FloatKind.f64.format.order (fb b) (fb a) == some .gt) = decide (a < b) := by
  rw [oR (fb_rep b (by omega)) (fb_rep a (by omega)), Bool.eq_iff_iff]
  simp [icmp_gt]
def inR (a0 a1 a2 a3 b0 b1 b2 b3 : Int) : Bool := decide (a0 ≤ b0 ∧ b2 ≤ a2 ∧ a1 ≤ b1 ∧ b3 ≤ a3)
theorem inR_true {a0 a1 a2 a3 b0 b1 b2 b3 : Int} (h : a0 ≤ b0 ∧ b2 ≤ a2 ∧ a1 ≤ b1 ∧ b3 ≤ a3) : inR a0 a1 a2 a3 b0 b1 b2 b3 = true := decide_eq_true h
theorem inR_false {a0 a1 a2 a3 b0 b1 b2 b3 : Int} (h : b0 < a0 ∨ a2 < b2 ∨ b1 < a1 ∨ a3 < b3) : inR a0 a1 a2 a3 b0 b1 b2 b3 = false := decide_eq_false (by omega)
end PF
namespace Go.Proofs.Ytdhljiediafeoaa
open Go.RowKit PF JR
theorem asNode (v : Value) (w : World) : (Instr.typeAssert (.iface 127 v) 20 127 false).run Try.prog w = .ok v w := by kernel_rfl
theorem asInt (v : Value) (w : World) : (Instr.typeAssert (.iface 3 v) 20 3 false).run Try.prog w = .ok v w := by kernel_rfl
theorem _root_.PF.Rw.drew {w u : World} {R : Nat} {cs : Array Value} {T : TypeId} (h : Rw w u R cs T) : Rw w u.drew R cs T := ⟨h.row, h.kp.drew⟩
theorem _root_.PF.Rw.drewN {w u : World} {R : Nat} {cs : Array Value} {T : TypeId} (h : Rw w u R cs T) (n : Nat) : Rw w (u.drewN n) R cs T := ⟨h.row, ⟨h.kp.os, h.kp.tape, h.kp.output, h.kp.size, h.kp.block⟩⟩
theorem _root_.PF.Rw.cell {w u : World} {R : Nat} {cs : Array Value} {T : TypeId} (h : Rw w u R cs T) (o : Nat) (ho : o < cs.size) : ∃ c, u.cell? ⟨R, o, none⟩ = some c :=
  ⟨cs[o], (cellAt h.row o).trans (Array.getElem?_eq_getElem ho)⟩
theorem _root_.PF.Rw.old {w u : World} {R : Nat} {cs : Array Value} {T : TypeId} (h : Rw w u R cs T) {B o : Nat} {v : Value} (hc : w.cell? ⟨B, o, none⟩ = some v) (hne : B ≠ R) : u.cell? ⟨B, o, none⟩ = some v :=
  (h.kp.cell (p := ⟨B, o, none⟩) (World.block_lt_of_cell? w _ hc) (by simpa using hne)).trans hc

/-- what a fit has done after k rounds -/
def FitI (w u : World) (R o : Nat) (cs : Array Value) (T : TypeId) (a0 a1 b0 b1 : Nat) (k : Nat) : Prop :=
  (k = 0 ∧ Rw w u R cs T) ∨ (k = 1 ∧ Rw w u R ((cs.setIfInBounds (o + 1) (fl a0)).setIfInBounds (o + 3) (fl b0)) T) ∨ (k = 2 ∧ Rw w u R ((((cs.setIfInBounds (o + 1) (fl a0)).setIfInBounds (o + 3) (fl b0)).setIfInBounds (o + 1 + 1) (fl a1)).setIfInBounds (o + 3 + 1) (fl b1)) T)

theorem slcNil (a : Addr) (n m : Nat) (w : World) : (binOp .eql 103 (.slice (some a) n m) (.slice none 0 0)).run Try.prog w = .ok (.bool false) w := by kernel_rfl
theorem ifNil (T : TypeId) (v : Value) (w : World) : (binOp .eql 20 (.iface T v) .nilIface).run Try.prog w = .ok (.bool false) w := by kernel_rfl
theorem nilNil (w : World) : (binOp .eql 20 .nilIface .nilIface).run Try.prog w = .ok (.bool true) w := by kernel_rfl

set_option maxRecDepth 100000 in
set_option maxHeartbeats 4000000 in
theorem fit_c (P p c Q q d R o : Nat) (cs : Array Value) (T : TypeId) (a0 a1 b0 b1 : Nat) (Tv : TypeId) (x : Value) (w : World)
    (p0 : w.cell? ⟨P, p, none⟩ = some (fl a0)) (p1 : w.cell? ⟨P, p + 1, none⟩ = some (fl a1)) (q0 : w.cell? ⟨Q, q, none⟩ = some (fl b0)) (q1 : w.cell? ⟨Q, q + 1, none⟩ = some (fl b1))
    (hR : w.heap[R]? = some (.cells cs T (0, 0))) (hP : P ≠ R) (hQ : Q ≠ R) (ho : o + 5 ≤ cs.size) :
    Calls Try.prog 49 #[.slice (some ⟨P, p, none⟩) 2 c, .slice (some ⟨Q, q, none⟩) 2 d, .iface Tv x, .pointer (some ⟨R, o, none⟩)] w fun e w' => e = .returned (.tuple #[]) ∧
      Rw w w' R (((((cs.setIfInBounds (o + 1) (fl a0)).setIfInBounds (o + 3) (fl b0)).setIfInBounds (o + 1 + 1) (fl a1)).setIfInBounds (o + 3 + 1) (fl b1)).setIfInBounds o (.iface Tv x)) T := by
  have hsn := slcNil
  go_enter Try.func49, Try.ntmps49
  go_wp2
  go_loopw [8] (fun i wr => ∃ k : Nat, k ≤ 2 ∧ i = .int .i64 k ∧ FitI w wr R o cs T a0 a1 b0 b1 k) (fun i _ => 2 - (intOf i).toNat)
  case atStart => exact ⟨0, by decide, rfl, .inl ⟨rfl, Rw.refl hR⟩⟩
  case round =>
    obtain ⟨k, hk, rfl, h | h | h⟩ := hrel
    · obtain ⟨rfl, h⟩ := h
      have x0 := h.old p0 hP
      have x1 := h.old q0 hQ
      obtain ⟨y0, z0⟩ := h.cell (o + 1) (by omega)
      obtain ⟨y1, z1⟩ := h.cell (o + 3) (by omega)
      have f0 := frozenAt h.row (o + 1)
      have f1 := frozenAt h.row (o + 3)
      clear p0 p1 q0 q1 hR
      go_upto_region 9 with (fail)
      go_region
      go_upto_region 10 with (fail)
      go_region
      go_wp2
      go_roundw
      case rel => exact ⟨1, by decide, by go_num, by first | exact .inr (.inl ⟨rfl, (h.drew.set _ _).drew.set _ _⟩) | exact .inr (.inr ⟨rfl, (h.drew.set _ _).drew.set _ _⟩) | trace_state⟩
      case measure => simp [intOf]
    · obtain ⟨rfl, h⟩ := h
      have x0 := h.old p1 hP
      have x1 := h.old q1 hQ
      obtain ⟨y0, z0⟩ := h.cell (o + 1 + 1) (by simp only [Array.size_setIfInBounds]; omega)
      obtain ⟨y1, z1⟩ := h.cell (o + 3 + 1) (by simp only [Array.size_setIfInBounds]; omega)
      have f0 := frozenAt h.row (o + 1 + 1)
      have f1 := frozenAt h.row (o + 3 + 1)
      clear p0 p1 q0 q1 hR
      go_upto_region 9 with (fail)
      go_region
      go_upto_region 10 with (fail)
      go_region
      go_wp2
      go_roundw
      case rel => exact ⟨2, by decide, by go_num, by first | exact .inr (.inl ⟨rfl, (h.drew.set _ _).drew.set _ _⟩) | exact .inr (.inr ⟨rfl, (h.drew.set _ _).drew.set _ _⟩) | trace_state⟩
      case measure => simp [intOf]
    · obtain ⟨rfl, h⟩ := h
      obtain ⟨y0, z0⟩ := h.cell o (by simp only [Array.size_setIfInBounds]; omega)
      have f0 := frozenAt h.row o
      clear p0 p1 q0 q1 hR
      go_wp2
      go_end0
      exact ⟨rfl, h.set _ _⟩

/-- four numbers at their places in a rectangle of the tree -/
def Rec4 (w : World) (R o a b c d : Nat) : Prop := w.cell? ⟨R, o + 1, none⟩ = some (fl a) ∧ w.cell? ⟨R, o + 1 + 1, none⟩ = some (fl b) ∧ w.cell? ⟨R, o + 3, none⟩ = some (fl c) ∧ w.cell? ⟨R, o + 3 + 1, none⟩ = some (fl d)
theorem Rec4.below {w u : World} {R o a b c d : Nat} (h : Rec4 w R o a b c d) (hb : Below w.heap.size w u) : Rec4 u R o a b c d := by
  obtain ⟨h1, h2, h3, h4⟩ := h
  have e : ∀ k, u.cell? ⟨R, k, none⟩ = w.cell? ⟨R, k, none⟩ := fun k => World.cell?_of_block (hb.block R (World.block_lt_of_cell? w _ h1))
  exact ⟨(e _).trans h1, (e _).trans h2, (e _).trans h3, (e _).trans h4⟩

set_option maxRecDepth 100000 in
set_option maxHeartbeats 4000000 in
theorem contains_c (R o B p : Nat) (a0 a1 a2 a3 b0 b1 b2 b3 : Int) (hA : Bd4 a0 a1 a2 a3) (hBd : Bd4 b0 b1 b2 b3) (w : World) (hr : Rec4 w R o (fb a0) (fb a1) (fb a2) (fb a3)) (hb : Rec4 w B p (fb b0) (fb b1) (fb b2) (fb b3)) :
    Calls Try.prog 63 #[.pointer (some ⟨R, o, none⟩), .pointer (some ⟨B, p, none⟩)] w fun e w' => e = .returned (.bool (inR a0 a1 a2 a3 b0 b1 b2 b3)) ∧ Below w.heap.size w w' := by
  obtain ⟨ha0, ha1, ha2, ha3⟩ := hA
  obtain ⟨hb0, hb1, hb2, hb3⟩ := hBd
  generalize hq : inR a0 a1 a2 a3 b0 b1 b2 b3 = ans
  replace hq : JR.StopN (inR a0 a1 a2 a3 b0 b1 b2 b3 = ans) := ⟨hq⟩
  go_enter Try.func63, Try.ntmps63
  go_wp2
  go_loopw [5] (fun i wr => ∃ k : Nat, k ≤ 2 ∧ i = .int .i64 k ∧ Below w.heap.size w wr ∧ JR.StopN ((1 ≤ k → a0 ≤ b0 ∧ b2 ≤ a2) ∧ (2 ≤ k → a1 ≤ b1 ∧ b3 ≤ a3))) (fun i _ => 2 - (intOf i).toNat)
  case atStart => exact ⟨0, by decide, rfl, Below.refl _ _, ⟨fun h => absurd h (by decide), fun h => absurd h (by decide)⟩⟩
  case round =>
    obtain ⟨k, hk, rfl, hB, hI⟩ := hrel
    obtain ⟨r1, r2, r3, r4⟩ := hr.below hB
    obtain ⟨s1, s2, s3, s4⟩ := hb.below hB
    clear hr hb
    obtain rfl | rfl | rfl : k = 0 ∨ k = 1 ∨ k = 2 := by omega
    · obtain ⟨t1, h1⟩ : ∃ t, (FloatKind.f64.format.order (fb b0) (fb a0) == some .lt) = t := ⟨_, rfl⟩
      have e1 : JR.StopN (t1 = decide (b0 < a0)) := ⟨h1.symm.trans (lt_fb hb0 ha0)⟩
      obtain ⟨t2, h2⟩ : ∃ t, (FloatKind.f64.format.order (fb b2) (fb a2) == some .gt) = t := ⟨_, rfl⟩
      have e2 : JR.StopN (t2 = decide (a2 < b2)) := ⟨h2.symm.trans (gt_fb hb2 ha2)⟩
      clear r2 r4 s2 s4
      cases t1
      · cases t2
        · go_upto_region 4 with (fail)
          go_quiet (fail)
          go_wp2
          go_roundw
          case rel => exact ⟨1, by decide, by go_num, below_drewN hB _, ⟨fun _ => by have h1 := e1.out; have h2 := e2.out; simp at h1 h2; omega, fun h => absurd h (by decide)⟩⟩
          case measure => simp [intOf]
        · go_upto_region 4 with (fail)
          go_quiet (fail)
          go_wp2
          go_ret
          refine ⟨?_, below_drewN hB _⟩
          have h1 := e2.out
          rw [← hq.out, inR_false (by simp at h1; omega)]
          rfl
      · clear h2 e2
        go_upto_region 4 with (fail)
        go_quiet (fail)
        go_wp2
        go_ret
        refine ⟨?_, below_drewN hB _⟩
        have h1 := e1.out
        rw [← hq.out, inR_false (by simp at h1; omega)]
        rfl
    · obtain ⟨t1, h1⟩ : ∃ t, (FloatKind.f64.format.order (fb b1) (fb a1) == some .lt) = t := ⟨_, rfl⟩
      have e1 : JR.StopN (t1 = decide (b1 < a1)) := ⟨h1.symm.trans (lt_fb hb1 ha1)⟩
      obtain ⟨t2, h2⟩ : ∃ t, (FloatKind.f64.format.order (fb b3) (fb a3) == some .gt) = t := ⟨_, rfl⟩
      have e2 : JR.StopN (t2 = decide (a3 < b3)) := ⟨h2.symm.trans (gt_fb hb3 ha3)⟩
      clear r1 r3 s1 s3
      cases t1
      · cases t2
        · go_upto_region 4 with (fail)
          go_quiet (fail)
          go_wp2
          go_roundw
          case rel => exact ⟨2, by decide, by go_num, below_drewN hB _, ⟨fun _ => hI.out.1 (by decide), fun _ => by have h1 := e1.out; have h2 := e2.out; simp at h1 h2; omega⟩⟩
          case measure => simp [intOf]
        · go_upto_region 4 with (fail)
          go_quiet (fail)
          go_wp2
          go_ret
          refine ⟨?_, below_drewN hB _⟩
          have h1 := e2.out
          rw [← hq.out, inR_false (by simp at h1; omega)]
          rfl
      · clear h2 e2
        go_upto_region 4 with (fail)
        go_quiet (fail)
        go_wp2
        go_ret
        refine ⟨?_, below_drewN hB _⟩
        have h1 := e1.out
        rw [← hq.out, inR_false (by simp at h1; omega)]
        rfl
    · go_wp2
      go_ret
      refine ⟨?_, hB⟩
      have h1 := hI.out.1 (by decide)
      have h2 := hI.out.2 (by decide)
      rw [← hq.out, inR_true (by omega)]
      rfl

/-- what expand has done after k rounds -/
def ExI (w u : World) (R : Nat) (a0 a1 a2 a3 b0 b1 b2 b3 : Int) (x0 x1 x6 x7 : Value) (T : TypeId) (k : Nat) : Prop :=
  (k = 0 ∧ Rw w u R #[x0, x1, fl (fb a0), fl (fb a1), fl (fb a2), fl (fb a3), x6, x7] T) ∨ (k = 1 ∧ Rw w u R #[x0, x1, fl (fb (min a0 b0)), fl (fb a1), fl (fb (max a2 b2)), fl (fb a3), x6, x7] T) ∨ (k = 2 ∧ Rw w u R #[x0, x1, fl (fb (min a0 b0)), fl (fb (min a1 b1)), fl (fb (max a2 b2)), fl (fb (max a3 b3)), x6, x7] T)
set_option maxRecDepth 100000 in
set_option maxHeartbeats 4000000 in
theorem expand_c (R B p : Nat) (a0 a1 a2 a3 b0 b1 b2 b3 : Int) (hA : Bd4 a0 a1 a2 a3) (hBd : Bd4 b0 b1 b2 b3) (x0 x1 x6 x7 : Value) (T : TypeId) (w : World) (hR : w.heap[R]? = some (.cells #[x0, x1, fl (fb a0), fl (fb a1), fl (fb a2), fl (fb a3), x6, x7] T (0, 0))) (hb : Rec4 w B p (fb b0) (fb b1) (fb b2) (fb b3)) (hne : B ≠ R) :
    Calls Try.prog 58 #[.pointer (some ⟨R, 1, none⟩), .pointer (some ⟨B, p, none⟩)] w fun e w' => e = .returned (.tuple #[]) ∧ Rw w w' R #[x0, x1, fl (fb (min a0 b0)), fl (fb (min a1 b1)), fl (fb (max a2 b2)), fl (fb (max a3 b3)), x6, x7] T := by
  obtain ⟨ha0, ha1, ha2, ha3⟩ := hA
  obtain ⟨hb0, hb1, hb2, hb3⟩ := hBd
  go_enter Try.func58, Try.ntmps58
  go_wp2
  go_loopw [4] (fun i wr => ∃ k : Nat, k ≤ 2 ∧ i = .int .i64 k ∧ ExI w wr R a0 a1 a2 a3 b0 b1 b2 b3 x0 x1 x6 x7 T k) (fun i _ => 2 - (intOf i).toNat)
  case atStart => exact ⟨0, by decide, rfl, .inl ⟨rfl, Rw.refl hR⟩⟩
  case round =>
    clear hR
    obtain ⟨k, hk, rfl, h⟩ := hrel
    obtain ⟨s1, s2, s3, s4⟩ := hb
    rcases h with ⟨rfl, h⟩ | ⟨rfl, h⟩ | ⟨rfl, h⟩
    · obtain ⟨t1, h1⟩ : ∃ t, (FloatKind.f64.format.order (fb b0) (fb a0) == some .lt) = t := ⟨_, rfl⟩
      have e1 : JR.StopN (t1 = decide (b0 < a0)) := ⟨h1.symm.trans (lt_fb hb0 ha0)⟩
      replace s1 := h.old s1 hne
      replace s2 := h.old s2 hne
      replace s3 := h.old s3 hne
      replace s4 := h.old s4 hne
      obtain ⟨t2, h2⟩ : ∃ t, (FloatKind.f64.format.order (fb b2) (fb a2) == some .gt) = t := ⟨_, rfl⟩
      have e2 : JR.StopN (t2 = decide (a2 < b2)) := ⟨h2.symm.trans (gt_fb hb2 ha2)⟩
      have r1 := cellAt h.row 2
      have r3 := cellAt h.row 4
      have f1 := frozenAt h.row 2
      have f3 := frozenAt h.row 4
      simp only [List.getElem?_toArray, List.getElem?_cons_zero, List.getElem?_cons_succ] at r1 r3
      clear s2 s4
      cases t1
      · cases t2
        · go_upto_region 3 with (fail)
          go_quiet (fail)
          go_upto_region 5 with (fail)
          go_quiet (fail)
          go_wp2
          go_roundw
          case rel => exact ⟨1, by decide, by go_num, .inr (.inl ⟨rfl, by have g1 := e1.out; have g2 := e2.out; simp at g1 g2; rw [show min a0 b0 = a0 from by omega, show max a2 b2 = a2 from by omega]; exact h.drewN _⟩)⟩
          case measure => simp [intOf]
        · go_upto_region 3 with (fail)
          go_quiet (fail)
          go_upto_region 5 with (fail)
          go_quiet (fail)
          go_upto_region 6 with (fail)
          go_region
          go_wp2
          go_roundw
          case rel => exact ⟨1, by decide, by go_num, .inr (.inl ⟨rfl, by have g1 := e1.out; have g2 := e2.out; simp at g1 g2; rw [show min a0 b0 = a0 from by omega, show max a2 b2 = b2 from by omega]; exact (h.drewN _).set 4 _⟩)⟩
          case measure => simp [intOf]
      · cases t2
        · go_upto_region 3 with (fail)
          go_quiet (fail)
          go_upto_region 4 with (fail)
          go_region
          go_upto_region 5 with (fail)
          go_quiet (fail)
          go_wp2
          go_roundw
          case rel => exact ⟨1, by decide, by go_num, .inr (.inl ⟨rfl, by have g1 := e1.out; have g2 := e2.out; simp at g1 g2; rw [show min a0 b0 = b0 from by omega, show max a2 b2 = a2 from by omega]; exact ((h.drewN _).set 2 _).drewN _⟩)⟩
          case measure => simp [intOf]
        · go_upto_region 3 with (fail)
          go_quiet (fail)
          go_upto_region 4 with (fail)
          go_region
          go_upto_region 5 with (fail)
          go_quiet (fail)
          go_upto_region 6 with (fail)
          go_region
          go_wp2
          go_roundw
          case rel => exact ⟨1, by decide, by go_num, .inr (.inl ⟨rfl, by have g1 := e1.out; have g2 := e2.out; simp at g1 g2; rw [show min a0 b0 = b0 from by omega, show max a2 b2 = b2 from by omega]; exact (((h.drewN _).set 2 _).drewN _).set 4 _⟩)⟩
          case measure => simp [intOf]
    · obtain ⟨t1, h1⟩ : ∃ t, (FloatKind.f64.format.order (fb b1) (fb a1) == some .lt) = t := ⟨_, rfl⟩
      have e1 : JR.StopN (t1 = decide (b1 < a1)) := ⟨h1.symm.trans (lt_fb hb1 ha1)⟩
      replace s1 := h.old s1 hne
      replace s2 := h.old s2 hne
      replace s3 := h.old s3 hne
      replace s4 := h.old s4 hne
      obtain ⟨t2, h2⟩ : ∃ t, (FloatKind.f64.format.order (fb b3) (fb a3) == some .gt) = t := ⟨_, rfl⟩
      have e2 : JR.StopN (t2 = decide (a3 < b3)) := ⟨h2.symm.trans (gt_fb hb3 ha3)⟩
      have r1 := cellAt h.row 3
      have r3 := cellAt h.row 5
      have f1 := frozenAt h.row 3
      have f3 := frozenAt h.row 5
      simp only [List.getElem?_toArray, List.getElem?_cons_zero, List.getElem?_cons_succ] at r1 r3
      clear s1 s3
      cases t1
      · cases t2
        · go_upto_region 3 with (fail)
          go_quiet (fail)
          go_upto_region 5 with (fail)
          go_quiet (fail)
          go_wp2
          go_roundw
          case rel => exact ⟨2, by decide, by go_num, .inr (.inr ⟨rfl, by have g1 := e1.out; have g2 := e2.out; simp at g1 g2; rw [show min a1 b1 = a1 from by omega, show max a3 b3 = a3 from by omega]; exact h.drewN _⟩)⟩
          case measure => simp [intOf]
        · go_upto_region 3 with (fail)
          go_quiet (fail)
          go_upto_region 5 with (fail)
          go_quiet (fail)
          go_upto_region 6 with (fail)
          go_region
          go_wp2
          go_roundw
          case rel => exact ⟨2, by decide, by go_num, .inr (.inr ⟨rfl, by have g1 := e1.out; have g2 := e2.out; simp at g1 g2; rw [show min a1 b1 = a1 from by omega, show max a3 b3 = b3 from by omega]; exact (h.drewN _).set 5 _⟩)⟩
          case measure => simp [intOf]
      · cases t2
        · go_upto_region 3 with (fail)
          go_quiet (fail)
          go_upto_region 4 with (fail)
          go_region
          go_upto_region 5 with (fail)
          go_quiet (fail)
          go_wp2
          go_roundw
          case rel => exact ⟨2, by decide, by go_num, .inr (.inr ⟨rfl, by have g1 := e1.out; have g2 := e2.out; simp at g1 g2; rw [show min a1 b1 = b1 from by omega, show max a3 b3 = a3 from by omega]; exact ((h.drewN _).set 3 _).drewN _⟩)⟩
          case measure => simp [intOf]
        · go_upto_region 3 with (fail)
          go_quiet (fail)
          go_upto_region 4 with (fail)
          go_region
          go_upto_region 5 with (fail)
          go_quiet (fail)
          go_upto_region 6 with (fail)
          go_region
          go_wp2
          go_roundw
          case rel => exact ⟨2, by decide, by go_num, .inr (.inr ⟨rfl, by have g1 := e1.out; have g2 := e2.out; simp at g1 g2; rw [show min a1 b1 = b1 from by omega, show max a3 b3 = b3 from by omega]; exact (((h.drewN _).set 3 _).drewN _).set 5 _⟩)⟩
          case measure => simp [intOf]
    · go_wp2
      go_end0
      exact ⟨rfl, h⟩
end Go.Proofs.Ytdhljiediafeoaa
