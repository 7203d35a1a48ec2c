import Derived.Test.YtlpibeloedfbdaaGreatQS
import Derived.Test.YtlpibeloedfbdaaGreatRect
set_option linter.unusedSimpArgs false
set_option linter.unusedVariables false
/-! Segment.Rect, NumSegments, SegmentAt. -/
namespace Go.Proofs.YtlpibeloedfbdaaGreat
open Go.RowKit PF JR

set_option maxHeartbeats 1000000 in
theorem sgr_c {ax ay bx bY : Nat} {Ax Ay Bx By : Int} (hax : Rep ax Ax) (hay : Rep ay Ay) (hbx : Rep bx Bx) (hby : Rep bY By) (w : World) :
    Calls Tryz.prog 46 #[.agg #[fl ax, fl ay, fl bx, fl bY]] w fun e w' => e = .returned (.agg #[fl (if Bx < Ax then bx else ax), fl (if By < Ay then bY else ay), fl (if Bx < Ax then ax else bx), fl (if By < Ay then ay else bY)]) ∧ Below w.heap.size w w' := by
  have o1 := oR hax hbx
  have o2 := oR hay hby
  by_cases c1 : Bx < Ax
  · by_cases c2 : By < Ay
    · simp only [c1, c2, if_true, if_false]
      go_enter Tryz.func46, Tryz.ntmps46
      go_wp2
      all_goals first
        | (exfalso; simp at *; omega)
        | exact bodyPost_ret (v := .agg #[fl bx, fl bY, fl ax, fl ay]) (by simp [results, Tryz.results46, go_sem]) rfl ⟨rfl, by repeat first | exact Below.refl _ _ | refine Below.alloc ?_ (by simp <;> omega) _ | refine Below.setCell ?_ (by simp <;> omega) _⟩
    · simp only [c1, c2, if_true, if_false]
      go_enter Tryz.func46, Tryz.ntmps46
      go_wp2
      all_goals first
        | (exfalso; simp at *; omega)
        | exact bodyPost_ret (v := .agg #[fl bx, fl ay, fl ax, fl bY]) (by simp [results, Tryz.results46, go_sem]) rfl ⟨rfl, by repeat first | exact Below.refl _ _ | refine Below.alloc ?_ (by simp <;> omega) _ | refine Below.setCell ?_ (by simp <;> omega) _⟩
  · by_cases c2 : By < Ay
    · simp only [c1, c2, if_true, if_false]
      go_enter Tryz.func46, Tryz.ntmps46
      go_wp2
      all_goals first
        | (exfalso; simp at *; omega)
        | exact bodyPost_ret (v := .agg #[fl ax, fl bY, fl bx, fl ay]) (by simp [results, Tryz.results46, go_sem]) rfl ⟨rfl, by repeat first | exact Below.refl _ _ | refine Below.alloc ?_ (by simp <;> omega) _ | refine Below.setCell ?_ (by simp <;> omega) _⟩
    · simp only [c1, c2, if_true, if_false]
      go_enter Tryz.func46, Tryz.ntmps46
      go_wp2
      all_goals first
        | (exfalso; simp at *; omega)
        | exact bodyPost_ret (v := .agg #[fl ax, fl ay, fl bx, fl bY]) (by simp [results, Tryz.results46, go_sem]) rfl ⟨rfl, by repeat first | exact Below.refl _ _ | refine Below.alloc ?_ (by simp <;> omega) _ | refine Below.setCell ?_ (by simp <;> omega) _⟩


/-- a series of these points; its block holds ss -/
def SerT (w : World) (sb : Nat) (T : TypeId) (closed : Bool) (l : List (Int × Int)) (lo hi : Nat) (ss : Array Value) : Prop :=
  w.heap[sb]? = some (.cells ss T (0, 0)) ∧ ss.size = 10 ∧ ss[0]? = some (.bool closed) ∧ ∃ v, ss[9]? = some v ∧ SlQ lo hi w v l
abbrev SerB (w : World) (sb : Nat) (closed : Bool) (l : List (Int × Int)) (lo hi : Nat) (ss : Array Value) : Prop := SerT w sb 81 closed l lo hi ss
/-- how many segments -/
def nSeg (closed : Bool) (l : List (Int × Int)) : Nat := if closed then (if l.length < 3 then 0 else if l[l.length - 1]? = l[0]? then l.length - 1 else l.length) else l.length - 1

theorem sgat_c {T : TypeId} (sb k lo hi : Nat) (closed : Bool) (l : List (Int × Int)) (a b : Int × Int) (ss : Array Value) (w : World) (hS : SerT w sb T closed l lo hi ss) (hl : l.length ≤ 1000) (ha : l[k]? = some a) (hb : l[if k = l.length - 1 then 0 else k + 1]? = some b) :
    Calls Tryz.prog 45 #[.pointer (some ⟨sb, 0, none⟩), .int .i64 k] w fun e w' => e = .returned (.agg #[fl (fb a.1), fl (fb a.2), fl (fb b.1), fl (fb b.2)]) ∧ Below w.heap.size w w' := by
  obtain ⟨h0, hs, h1, v, h2, A, c, rfl, hk⟩ := hS
  obtain ⟨g, rfl, -, -, a1, a2⟩ := hk k a ha
  obtain ⟨g', e, -, -, b1, b2⟩ := hk _ b hb
  cases e
  have x9 := (cellAt h0 9).trans h2
  have hkl : k < l.length := by
    rcases Nat.lt_or_ge k l.length with h | h
    · exact h
    · rw [List.getElem?_eq_none h] at ha; cases ha
  have hsb := lt_of_some h0
  have hg : g < w.heap.size := World.block_lt_of_cell? w _ a1
  clear hk h0 h1 h2 ha hs
  simp only [Nat.zero_add, Nat.zero_mul] at a1 a2
  obtain ⟨n, hn⟩ : ∃ n, l.length = n + 1 := ⟨l.length - 1, by omega⟩
  by_cases hc : k = l.length - 1
  · rw [if_pos hc] at b1 b2
    simp only [Nat.zero_add, Nat.zero_mul] at b1 b2
    have e : k = n := by omega
    clear hc hb
    rw [hn] at x9 hkl hl
    subst e
    clear hn
    go_enter Tryz.func45, Tryz.ntmps45
    go_wp2
    exact bodyPost_ret (v := .agg #[fl (fb a.1), fl (fb a.2), fl (fb b.1), fl (fb b.2)]) (by simp [results, Tryz.results45, go_sem]) rfl ⟨rfl, by repeat first | exact Below.refl _ _ | refine Below.alloc ?_ (by simp <;> omega) _ | refine Below.setCell ?_ (by simp <;> omega) _⟩
  · rw [if_neg hc] at b1 b2
    simp only [Nat.zero_add, Nat.zero_mul] at b1 b2
    have e : k < n := by omega
    have e' : (k : Int) ≠ n := by omega
    clear hc hb
    rw [hn] at x9 hkl hl
    clear hn
    go_enter Tryz.func45, Tryz.ntmps45
    go_wp2
    exact bodyPost_ret (v := .agg #[fl (fb a.1), fl (fb a.2), fl (fb b.1), fl (fb b.2)]) (by simp [results, Tryz.results45, go_sem]) rfl ⟨rfl, by repeat first | exact Below.refl _ _ | refine Below.alloc ?_ (by simp <;> omega) _ | refine Below.setCell ?_ (by simp <;> omega) _⟩

theorem eqPtG {a1 a2 c1 c2 : Nat} {A1 A2 C1 C2 : Int} (h1 : Rep a1 A1) (h2 : Rep a2 A2) (h3 : Rep c1 C1) (h4 : Rep c2 C2) {b : Bool} (hb : decide (A1 = C1 ∧ A2 = C2) = b) (u : World) :
    (binOp .eql 50 (.agg #[fl a1, fl a2]) (.agg #[fl c1, fl c2])).run Tryz.prog u = .ok (.bool b) u := by
  have o1 := oR h1 h3
  have o2 := oR h2 h4
  subst hb
  by_cases e1 : A1 = C1 <;> by_cases e2 : A2 = C2 <;> simp [go_sem, o1, o2, e1, e2]
set_option maxHeartbeats 1000000 in
theorem nseg_c {T : TypeId} (sb lo hi : Nat) (closed : Bool) (l : List (Int × Int)) (ss : Array Value) (w : World) (hS : SerT w sb T closed l lo hi ss) (hl : l.length ≤ 1000) (h2l : 2 ≤ l.length) (hbd : ∀ p ∈ l, p.1.natAbs ≤ 1000000 ∧ p.2.natAbs ≤ 1000000) :
    Calls Tryz.prog 44 #[.pointer (some ⟨sb, 0, none⟩)] w fun e w' => e = .returned (.int .i64 (nSeg closed l)) ∧ Below w.heap.size w w' := by
  obtain ⟨h0, hs, h1, v, h2, A, c, rfl, hk⟩ := hS
  have x0 := (cellAt h0 0).trans h1
  have x9 := (cellAt h0 9).trans h2
  obtain ⟨n, hn⟩ : ∃ n, l.length = n + 2 := ⟨l.length - 2, by omega⟩
  cases closed
  · have e : nSeg false l = n + 1 := by unfold nSeg; simp [hn]
    rw [e]
    rw [hn] at x9 hl
    go_enter Tryz.func44, Tryz.ntmps44
    go_wp2
    go_ret
    exact ⟨by go_num, Below.refl _ _⟩
  · obtain ⟨a, ha⟩ : ∃ a, l[0]? = some a := ⟨l[0]'(by omega), by simp⟩
    obtain ⟨b, hb⟩ : ∃ b, l[l.length - 1]? = some b := ⟨l[l.length - 1]'(by omega), by simp⟩
    obtain ⟨g, rfl, -, -, a1, a2⟩ := hk 0 a ha
    obtain ⟨g', e, -, -, b1, b2⟩ := hk _ b hb
    cases e
    have ma := hbd a (List.mem_of_getElem? ha)
    have mb := hbd b (List.mem_of_getElem? hb)
    have q1 := fb_rep b.1 (by omega)
    have q2 := fb_rep b.2 (by omega)
    have q3 := fb_rep a.1 (by omega)
    have q4 := fb_rep a.2 (by omega)
    simp only [Nat.zero_add, Nat.zero_mul] at a1 a2 b1 b2
    clear hk h0 h1 h2 hbd hs
    by_cases hn0 : l.length = 2
    · have e : nSeg true l = 0 := by unfold nSeg; simp [hn0]
      rw [e]
      rw [hn0] at x9
      go_enter Tryz.func44, Tryz.ntmps44
      go_wp2
      go_ret
      exact ⟨rfl, Below.refl _ _⟩
    · have e : nSeg true l = if b = a then l.length - 1 else l.length := by
        unfold nSeg
        rw [ha, hb, if_pos rfl, if_neg (by omega)]
        simp
      rw [e]
      have i1 : ¬ ((l.length : Int) < 3) := by omega
      have i3 : (0 : Int) < (l.length : Int) := by omega
      have i6 : 0 < l.length := by omega
      have i7 : l.length ≠ 0 := by omega
      obtain ⟨M, hM⟩ : ∃ M, M = l.length - 1 := ⟨_, rfl⟩
      rw [← hM] at b1 b2 ⊢
      have iw : IntKind.i64.wrap (M : Int) = (M : Int) := wrap_small _ (by omega) (by omega)
      have i2 : (M : Int) < (l.length : Int) := by omega
      have i5 : (l.length : Int) - 1 = M := by omega
      clear ha hb e ma mb hM hn hn0
      generalize l.length = N at *
      by_cases c1 : b = a
      · subst c1
        rw [if_pos rfl]
        have g1 := fun u => eqPtG q1 q2 q3 q4 (decide_eq_true ⟨rfl, rfl⟩) u
        clear q1 q2 q3 q4
        go_enter Tryz.func44, Tryz.ntmps44
        go_upto_region 4 with (fail)
        go_quiet (fail)
        go_wp2
        go_ret
        exact ⟨by first | rfl | go_num, below_drewN (Below.refl _ _) _⟩
      · rw [if_neg c1]
        have g1 := fun u => eqPtG q1 q2 q3 q4 (decide_eq_false (fun h => c1 (Prod.ext h.1 h.2))) u
        clear q1 q2 q3 q4
        go_enter Tryz.func44, Tryz.ntmps44
        go_upto_region 4 with (fail)
        go_quiet (fail)
        go_wp2
        go_ret
        exact ⟨by first | rfl | go_num, below_drewN (Below.refl _ _) _⟩
end Go.Proofs.YtlpibeloedfbdaaGreat
