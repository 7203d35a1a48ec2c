import Derived.Test.YtkldjceopjfjhaaRt
set_option linter.unusedSimpArgs false
set_option linter.unusedVariables false
/-! The r-tree of few segments: a rectangle put in. -/
namespace Go.Proofs.Ytkldjceopjfjhaa
open Go.RowKit PF JR
/-- the block R is a row of these cells, and nothing else was changed -/
structure Rw (w u : World) (R : Nat) (cs : Array Value) (T : TypeId) : Prop where
  row : u.heap[R]? = some (.cells cs T (0, 0))
  kp : Keep [R] w u
theorem Rw.refl {w : World} {R : Nat} {cs : Array Value} {T : TypeId} (h : w.heap[R]? = some (.cells cs T (0, 0))) : Rw w w R cs T := ⟨h, Keep.refl _ _⟩
theorem Rw.set {w u : World} {R : Nat} {cs : Array Value} {T : TypeId} (h : Rw w u R cs T) (o : Nat) (v : Value) : Rw w (u.setCell ⟨R, o, none⟩ v) R (cs.setIfInBounds o v) T := by
  rw [setCell_row h.row]
  exact ⟨setRow_same h.row, Keep.setRow h.kp (.inr (by simp))⟩
theorem Rw.drew {w u : World} {R : Nat} {cs : Array Value} {T : TypeId} (h : Rw w u R cs T) : Rw w u.drew R cs T := ⟨h.row, h.kp.drew⟩
theorem Rw.drewN {w u : World} {R : Nat} {cs : Array Value} {T : TypeId} (h : Rw w u R cs T) (n : Nat) : Rw w (u.drewN n) R cs T := ⟨h.row, ⟨h.kp.os, h.kp.tape, h.kp.output, h.kp.size, h.kp.block⟩⟩
theorem Rw.cell {w u : World} {R : Nat} {cs : Array Value} {T : TypeId} (h : Rw w u R cs T) (o : Nat) (ho : o < cs.size) : ∃ c, u.cell? ⟨R, o, none⟩ = some c :=
  ⟨cs[o], (cellAt h.row o).trans (Array.getElem?_eq_getElem ho)⟩
theorem Rw.old {w u : World} {R : Nat} {cs : Array Value} {T : TypeId} (h : Rw w u R cs T) {B o : Nat} {v : Value} (hc : w.cell? ⟨B, o, none⟩ = some v) (hne : B ≠ R) : u.cell? ⟨B, o, none⟩ = some v :=
  (h.kp.cell (p := ⟨B, o, none⟩) (World.block_lt_of_cell? w _ hc) (by simpa using hne)).trans hc

/-- what a fit has done after k rounds -/
def FitI (w u : World) (R o : Nat) (cs : Array Value) (T : TypeId) (a0 a1 b0 b1 : Nat) (k : Nat) : Prop :=
  (k = 0 ∧ Rw w u R cs T) ∨ (k = 1 ∧ Rw w u R ((cs.setIfInBounds (o + 1) (fl a0)).setIfInBounds (o + 3) (fl b0)) T) ∨ (k = 2 ∧ Rw w u R ((((cs.setIfInBounds (o + 1) (fl a0)).setIfInBounds (o + 3) (fl b0)).setIfInBounds (o + 1 + 1) (fl a1)).setIfInBounds (o + 3 + 1) (fl b1)) T)

theorem slcNil (a : Addr) (n m : Nat) (w : World) : (binOp .eql 109 (.slice (some a) n m) (.slice none 0 0)).run Try.prog w = .ok (.bool false) w := by kernel_rfl
theorem ifNil (T : TypeId) (v : Value) (w : World) : (binOp .eql 20 (.iface T v) .nilIface).run Try.prog w = .ok (.bool false) w := by kernel_rfl
theorem nilNil (w : World) : (binOp .eql 20 .nilIface .nilIface).run Try.prog w = .ok (.bool true) w := by kernel_rfl

set_option maxRecDepth 100000 in
set_option maxHeartbeats 4000000 in
theorem fit_c (P p c Q q d R o : Nat) (cs : Array Value) (T : TypeId) (a0 a1 b0 b1 : Nat) (Tv : TypeId) (x : Value) (w : World)
    (p0 : w.cell? ⟨P, p, none⟩ = some (fl a0)) (p1 : w.cell? ⟨P, p + 1, none⟩ = some (fl a1)) (q0 : w.cell? ⟨Q, q, none⟩ = some (fl b0)) (q1 : w.cell? ⟨Q, q + 1, none⟩ = some (fl b1))
    (hR : w.heap[R]? = some (.cells cs T (0, 0))) (hP : P ≠ R) (hQ : Q ≠ R) (ho : o + 5 ≤ cs.size) :
    Calls Try.prog 56 #[.slice (some ⟨P, p, none⟩) 2 c, .slice (some ⟨Q, q, none⟩) 2 d, .iface Tv x, .pointer (some ⟨R, o, none⟩)] w fun e w' => e = .returned (.tuple #[]) ∧
      Rw w w' R (((((cs.setIfInBounds (o + 1) (fl a0)).setIfInBounds (o + 3) (fl b0)).setIfInBounds (o + 1 + 1) (fl a1)).setIfInBounds (o + 3 + 1) (fl b1)).setIfInBounds o (.iface Tv x)) T := by
  have hsn := slcNil
  go_enter Try.func56, Try.ntmps56
  go_wp2
  go_loopw [8] (fun i wr => ∃ k : Nat, k ≤ 2 ∧ i = .int .i64 k ∧ FitI w wr R o cs T a0 a1 b0 b1 k) (fun i _ => 2 - (intOf i).toNat)
  case atStart => exact ⟨0, by decide, rfl, .inl ⟨rfl, Rw.refl hR⟩⟩
  case round =>
    obtain ⟨k, hk, rfl, h | h | h⟩ := hrel
    · obtain ⟨rfl, h⟩ := h
      have x0 := h.old p0 hP
      have x1 := h.old q0 hQ
      obtain ⟨y0, z0⟩ := h.cell (o + 1) (by omega)
      obtain ⟨y1, z1⟩ := h.cell (o + 3) (by omega)
      have f0 := frozenAt h.row (o + 1)
      have f1 := frozenAt h.row (o + 3)
      clear p0 p1 q0 q1 hR
      go_upto_region 9 with (fail)
      go_region
      go_upto_region 10 with (fail)
      go_region
      go_wp2
      go_roundw
      case rel => exact ⟨1, by decide, by go_num, by first | exact .inr (.inl ⟨rfl, (h.drew.set _ _).drew.set _ _⟩) | exact .inr (.inr ⟨rfl, (h.drew.set _ _).drew.set _ _⟩) | trace_state⟩
      case measure => simp [intOf]
    · obtain ⟨rfl, h⟩ := h
      have x0 := h.old p1 hP
      have x1 := h.old q1 hQ
      obtain ⟨y0, z0⟩ := h.cell (o + 1 + 1) (by simp only [Array.size_setIfInBounds]; omega)
      obtain ⟨y1, z1⟩ := h.cell (o + 3 + 1) (by simp only [Array.size_setIfInBounds]; omega)
      have f0 := frozenAt h.row (o + 1 + 1)
      have f1 := frozenAt h.row (o + 3 + 1)
      clear p0 p1 q0 q1 hR
      go_upto_region 9 with (fail)
      go_region
      go_upto_region 10 with (fail)
      go_region
      go_wp2
      go_roundw
      case rel => exact ⟨2, by decide, by go_num, by first | exact .inr (.inl ⟨rfl, (h.drew.set _ _).drew.set _ _⟩) | exact .inr (.inr ⟨rfl, (h.drew.set _ _).drew.set _ _⟩) | trace_state⟩
      case measure => simp [intOf]
    · obtain ⟨rfl, h⟩ := h
      obtain ⟨y0, z0⟩ := h.cell o (by simp only [Array.size_setIfInBounds]; omega)
      have f0 := frozenAt h.row o
      clear p0 p1 q0 q1 hR
      go_wp2
      go_end0
      exact ⟨rfl, h.set _ _⟩

/-- four numbers at their places in a rectangle of the tree -/
def Rec4 (w : World) (R o a b c d : Nat) : Prop := w.cell? ⟨R, o + 1, none⟩ = some (fl a) ∧ w.cell? ⟨R, o + 1 + 1, none⟩ = some (fl b) ∧ w.cell? ⟨R, o + 3, none⟩ = some (fl c) ∧ w.cell? ⟨R, o + 3 + 1, none⟩ = some (fl d)
theorem Rec4.below {w u : World} {R o a b c d : Nat} (h : Rec4 w R o a b c d) (hb : Below w.heap.size w u) : Rec4 u R o a b c d := by
  obtain ⟨h1, h2, h3, h4⟩ := h
  have e : ∀ k, u.cell? ⟨R, k, none⟩ = w.cell? ⟨R, k, none⟩ := fun k => World.cell?_of_block (hb.block R (World.block_lt_of_cell? w _ h1))
  exact ⟨(e _).trans h1, (e _).trans h2, (e _).trans h3, (e _).trans h4⟩

set_option maxRecDepth 100000 in
set_option maxHeartbeats 4000000 in
theorem contains_c (R o B p a0 a1 a2 a3 b0 b1 b2 b3 : Nat) (w : World) (hr : Rec4 w R o a0 a1 a2 a3) (hb : Rec4 w B p b0 b1 b2 b3) :
    Calls Try.prog 70 #[.pointer (some ⟨R, o, none⟩), .pointer (some ⟨B, p, none⟩)] w fun e w' => ∃ t, e = .returned (.bool t) ∧ Below w.heap.size w w' := by
  go_enter Try.func70, Try.ntmps70
  go_wp2
  go_loopw [5] (fun i wr => ∃ k : Nat, k ≤ 2 ∧ i = .int .i64 k ∧ Below w.heap.size w wr) (fun i _ => 2 - (intOf i).toNat)
  case atStart => exact ⟨0, by decide, rfl, Below.refl _ _⟩
  case round =>
    obtain ⟨k, hk, rfl, hB⟩ := hrel
    obtain ⟨r1, r2, r3, r4⟩ := hr.below hB
    obtain ⟨s1, s2, s3, s4⟩ := hb.below hB
    clear hr hb
    obtain rfl | rfl | rfl : k = 0 ∨ k = 1 ∨ k = 2 := by omega
    · obtain ⟨t1, h1⟩ : ∃ t, (FloatKind.f64.format.order b0 a0 == some .lt) = t := ⟨_, rfl⟩
      obtain ⟨t2, h2⟩ : ∃ t, (FloatKind.f64.format.order b2 a2 == some .gt) = t := ⟨_, rfl⟩
      clear r2 r4 s2 s4
      cases t1
      · cases t2
        · go_upto_region 4 with (fail)
          go_quiet (fail)
          go_wp2
          go_roundw
          case rel => exact ⟨1, by decide, by go_num, below_drewN hB _⟩
          case measure => simp [intOf]
        · go_upto_region 4 with (fail)
          go_quiet (fail)
          go_wp2
          go_ret
          exact ⟨_, rfl, below_drewN hB _⟩
      · clear h2
        go_upto_region 4 with (fail)
        go_quiet (fail)
        go_wp2
        go_ret
        exact ⟨_, rfl, below_drewN hB _⟩
    · obtain ⟨t1, h1⟩ : ∃ t, (FloatKind.f64.format.order b1 a1 == some .lt) = t := ⟨_, rfl⟩
      obtain ⟨t2, h2⟩ : ∃ t, (FloatKind.f64.format.order b3 a3 == some .gt) = t := ⟨_, rfl⟩
      clear r1 r3 s1 s3
      cases t1
      · cases t2
        · go_upto_region 4 with (fail)
          go_quiet (fail)
          go_wp2
          go_roundw
          case rel => exact ⟨2, by decide, by go_num, below_drewN hB _⟩
          case measure => simp [intOf]
        · go_upto_region 4 with (fail)
          go_quiet (fail)
          go_wp2
          go_ret
          exact ⟨_, rfl, below_drewN hB _⟩
      · clear h2
        go_upto_region 4 with (fail)
        go_quiet (fail)
        go_wp2
        go_ret
        exact ⟨_, rfl, below_drewN hB _⟩
    · go_wp2
      go_ret
      exact ⟨_, rfl, hB⟩

set_option maxRecDepth 100000 in
set_option maxHeartbeats 4000000 in
theorem expand_c (R B p a0 a1 a2 a3 b0 b1 b2 b3 : Nat) (x0 x1 x6 x7 : Value) (T : TypeId) (w : World) (hR : w.heap[R]? = some (.cells #[x0, x1, fl a0, fl a1, fl a2, fl a3, x6, x7] T (0, 0))) (hb : Rec4 w B p b0 b1 b2 b3) (hne : B ≠ R) :
    Calls Try.prog 65 #[.pointer (some ⟨R, 1, none⟩), .pointer (some ⟨B, p, none⟩)] w fun e w' => e = .returned (.tuple #[]) ∧ ∃ c0 c1 c2 c3, Rw w w' R #[x0, x1, fl c0, fl c1, fl c2, fl c3, x6, x7] T := by
  go_enter Try.func65, Try.ntmps65
  go_wp2
  go_loopw [4] (fun i wr => ∃ k : Nat, k ≤ 2 ∧ i = .int .i64 k ∧ ∃ c0 c1 c2 c3, Rw w wr R #[x0, x1, fl c0, fl c1, fl c2, fl c3, x6, x7] T) (fun i _ => 2 - (intOf i).toNat)
  case atStart => exact ⟨0, by decide, rfl, _, _, _, _, Rw.refl hR⟩
  case round =>
    clear hR
    obtain ⟨k, hk, rfl, c0, c1, c2, c3, h⟩ := hrel
    obtain ⟨s1, s2, s3, s4⟩ := hb
    replace s1 := h.old s1 hne
    replace s2 := h.old s2 hne
    replace s3 := h.old s3 hne
    replace s4 := h.old s4 hne
    obtain rfl | rfl | rfl : k = 0 ∨ k = 1 ∨ k = 2 := by omega
    · obtain ⟨t1, h1⟩ : ∃ t, (FloatKind.f64.format.order b0 c0 == some .lt) = t := ⟨_, rfl⟩
      obtain ⟨t2, h2⟩ : ∃ t, (FloatKind.f64.format.order b2 c2 == some .gt) = t := ⟨_, rfl⟩
      have r1 := cellAt h.row 2
      have r3 := cellAt h.row 4
      have f1 := frozenAt h.row 2
      have f3 := frozenAt h.row 4
      simp only [List.getElem?_toArray, List.getElem?_cons_zero, List.getElem?_cons_succ] at r1 r3
      clear s2 s4
      cases t1
      · cases t2
        · go_upto_region 3 with (fail)
          go_quiet (fail)
          go_upto_region 5 with (fail)
          go_quiet (fail)
          go_wp2
          go_roundw
          case rel => exact ⟨1, by decide, by go_num, _, _, _, _, h.drewN _⟩
          case measure => simp [intOf]
        · go_upto_region 3 with (fail)
          go_quiet (fail)
          go_upto_region 5 with (fail)
          go_quiet (fail)
          go_upto_region 6 with (fail)
          go_region
          go_wp2
          go_roundw
          case rel => exact ⟨1, by decide, by go_num, _, _, _, _, (h.drewN _).set 4 _⟩
          case measure => simp [intOf]
      · cases t2
        · go_upto_region 3 with (fail)
          go_quiet (fail)
          go_upto_region 4 with (fail)
          go_region
          go_upto_region 5 with (fail)
          go_quiet (fail)
          go_wp2
          go_roundw
          case rel => exact ⟨1, by decide, by go_num, _, _, _, _, ((h.drewN _).set 2 _).drewN _⟩
          case measure => simp [intOf]
        · go_upto_region 3 with (fail)
          go_quiet (fail)
          go_upto_region 4 with (fail)
          go_region
          go_upto_region 5 with (fail)
          go_quiet (fail)
          go_upto_region 6 with (fail)
          go_region
          go_wp2
          go_roundw
          case rel => exact ⟨1, by decide, by go_num, _, _, _, _, (((h.drewN _).set 2 _).drewN _).set 4 _⟩
          case measure => simp [intOf]
    · obtain ⟨t1, h1⟩ : ∃ t, (FloatKind.f64.format.order b1 c1 == some .lt) = t := ⟨_, rfl⟩
      obtain ⟨t2, h2⟩ : ∃ t, (FloatKind.f64.format.order b3 c3 == some .gt) = t := ⟨_, rfl⟩
      have r1 := cellAt h.row 3
      have r3 := cellAt h.row 5
      have f1 := frozenAt h.row 3
      have f3 := frozenAt h.row 5
      simp only [List.getElem?_toArray, List.getElem?_cons_zero, List.getElem?_cons_succ] at r1 r3
      clear s1 s3
      cases t1
      · cases t2
        · go_upto_region 3 with (fail)
          go_quiet (fail)
          go_upto_region 5 with (fail)
          go_quiet (fail)
          go_wp2
          go_roundw
          case rel => exact ⟨2, by decide, by go_num, _, _, _, _, h.drewN _⟩
          case measure => simp [intOf]
        · go_upto_region 3 with (fail)
          go_quiet (fail)
          go_upto_region 5 with (fail)
          go_quiet (fail)
          go_upto_region 6 with (fail)
          go_region
          go_wp2
          go_roundw
          case rel => exact ⟨2, by decide, by go_num, _, _, _, _, (h.drewN _).set 5 _⟩
          case measure => simp [intOf]
      · cases t2
        · go_upto_region 3 with (fail)
          go_quiet (fail)
          go_upto_region 4 with (fail)
          go_region
          go_upto_region 5 with (fail)
          go_quiet (fail)
          go_wp2
          go_roundw
          case rel => exact ⟨2, by decide, by go_num, _, _, _, _, ((h.drewN _).set 3 _).drewN _⟩
          case measure => simp [intOf]
        · go_upto_region 3 with (fail)
          go_quiet (fail)
          go_upto_region 4 with (fail)
          go_region
          go_upto_region 5 with (fail)
          go_quiet (fail)
          go_upto_region 6 with (fail)
          go_region
          go_wp2
          go_roundw
          case rel => exact ⟨2, by decide, by go_num, _, _, _, _, (((h.drewN _).set 3 _).drewN _).set 5 _⟩
          case measure => simp [intOf]
    · go_wp2
      go_end0
      exact ⟨rfl, _, _, _, _, h⟩
end Go.Proofs.Ytkldjceopjfjhaa
