import Derived.Test.YtkldjceopjfjhaaSe
import Derived.Test.YtkldjceopjfjhaaCr
set_option linter.unusedSimpArgs false
set_option linter.unusedVariables false
/-! The methods of a series. -/
namespace Go.Proofs.Ytkldjceopjfjhaa
open Go.RowKit PF JR
/-- some Bool comes back, and nothing of what lay there is changed -/
def AnyB (w : World) (e : Ending) (w' : World) : Prop := ∃ b : Bool, e = .returned (.bool b) ∧ Below w.heap.size w w'

set_option maxHeartbeats 1000000 in
theorem bsValid_c (cv0 : Array Value) (l : List (Int × Int)) (hl : l.length ≤ 2147483647) (hbd : ∀ p ∈ l, -1000000 ≤ p.1 ∧ p.1 ≤ 1000000 ∧ -1000000 ≤ p.2 ∧ p.2 ≤ 1000000) (vs : Value) (T : TypeId) (b lo hi : Nat) (w : World) (h : w.heap[b]? = some (.cells cv0 T (0, 0))) (h9 : cv0[9]? = some vs) (hv : SlQ lo hi w vs l) :
    Calls Try.prog 108 #[.pointer (some ⟨b, 0, none⟩)] w (AnyB w) := by
  obtain ⟨A, c, rfl, hk⟩ := hv
  have x9 := (cellAt h 9).trans h9
  go_enter Try.func108, Try.ntmps108
  go_wp2
  go_loopw [10] (fun i wr => ∃ k : Nat, k ≤ l.length ∧ i = .int .i64 k ∧ Below w.heap.size w wr) (fun i _ => l.length - (intOf i).toNat)
  case atStart => exact ⟨0, Nat.zero_le _, rfl, Below.refl _ _⟩
  case round =>
    obtain ⟨k, hkl, rfl, hnx⟩ := hrel
    rcases Nat.lt_or_ge k l.length with hlt | hge
    · obtain ⟨p, hp⟩ : ∃ p, l[k]? = some p := ⟨l[k], by simp [hlt]⟩
      obtain ⟨bb, rfl, -, -, h1, h2⟩ := hk k p hp
      have g1 := (hnx.cell (World.block_lt_of_cell? w _ h1)).trans h1
      have g2 := (hnx.cell (World.block_lt_of_cell? w _ h2)).trans h2
      simp only [Nat.zero_add] at g1 g2
      have bp := hbd p (List.mem_of_getElem? hp)
      have hB := hnx.alloc hnx.size (.cells #[fl (fb p.1), fl (fb p.2)] 56)
      have r1 := fb_rep p.1 (by omega)
      have r2 := fb_rep p.2 (by omega)
      have pv := fun u => ptv_c r1 r2 u
      generalize decide (-180 ≤ p.1 ∧ p.1 ≤ 180 ∧ -90 ≤ p.2 ∧ p.2 ≤ 90) = ok at *
      clear h1 h2 hk hbd bp r1 r2 hp
      go_wp2_with (go_at_call 42; refine JR.StopM.out ?_)
      refine ⟨?_⟩
      refine (pv _).mono ?_
      rintro e w1 ⟨rfl, hb⟩
      have hB1 := hB.trans (hb.mono hB.size)
      clear hb hB pv g1 g2
      cases ok with
      | false =>
        go_wp2
        go_ret
        exact ⟨_, rfl, hB1⟩
      | true =>
        go_wp2
        go_roundw
        case rel => exact ⟨k + 1, by omega, by go_num, hB1⟩
        case measure => simp [intOf]; omega
    · have hkk : k = l.length := by omega
      subst hkk
      clear hk
      go_wp2
      go_ret
      exact ⟨_, rfl, hnx⟩
theorem msNum {K : Nat} {closed : Bool} {l : List (Int × Int)} {T : TypeId} {lo hi b : Nat} {w : World} (H : SkP K closed l T lo hi b w) :
    Calls Try.prog 103 #[.pointer (some ⟨b, 0, none⟩)] w fun e w' => e = .returned (.int .i64 l.length) ∧ Below w.heap.size w w' := by
  obtain ⟨ix, v', -, -, -, h3, h4⟩ := H
  obtain ⟨A, c, rfl⟩ := h4.len
  have x := cellAt h3 9
  simp only [serC, List.getElem?_toArray, List.getElem?_cons_zero, List.getElem?_cons_succ] at x
  clear h3 h4
  generalize decide (0 < cws l l.length) = cw at *
  generalize (!(cvs l l.length).1) = cv at *
  go_enter Try.func103, Try.ntmps103
  go_wp2
  go_ret
  exact ⟨rfl, Below.refl _ _⟩
theorem msConvex {K : Nat} {closed : Bool} {l : List (Int × Int)} {T : TypeId} {lo hi b : Nat} {w : World} (H : SkP K closed l T lo hi b w) :
    Calls Try.prog 100 #[.pointer (some ⟨b, 0, none⟩)] w fun e w' => e = .returned (.bool (!(cvs l l.length).1)) ∧ Below w.heap.size w w' := by
  obtain ⟨ix, v', -, -, -, h3, h4⟩ := H
  obtain ⟨A, c, rfl⟩ := h4.len
  have x := cellAt h3 2
  simp only [serC, List.getElem?_toArray, List.getElem?_cons_zero, List.getElem?_cons_succ] at x
  clear h3 h4
  generalize decide (0 < cws l l.length) = cw at *
  generalize (!(cvs l l.length).1) = cv at *
  go_enter Try.func100, Try.ntmps100
  go_wp2
  go_ret
  exact ⟨rfl, Below.refl _ _⟩
theorem msClock {K : Nat} {closed : Bool} {l : List (Int × Int)} {T : TypeId} {lo hi b : Nat} {w : World} (H : SkP K closed l T lo hi b w) :
    Calls Try.prog 99 #[.pointer (some ⟨b, 0, none⟩)] w fun e w' => e = .returned (.bool (decide (0 < cws l l.length))) ∧ Below w.heap.size w w' := by
  obtain ⟨ix, v', -, -, -, h3, h4⟩ := H
  obtain ⟨A, c, rfl⟩ := h4.len
  have x := cellAt h3 1
  simp only [serC, List.getElem?_toArray, List.getElem?_cons_zero, List.getElem?_cons_succ] at x
  clear h3 h4
  generalize decide (0 < cws l l.length) = cw at *
  generalize (!(cvs l l.length).1) = cv at *
  go_enter Try.func99, Try.ntmps99
  go_wp2
  go_ret
  exact ⟨rfl, Below.refl _ _⟩
theorem msIndex {K : Nat} {closed : Bool} {l : List (Int × Int)} {T : TypeId} {lo hi b : Nat} {w : World} (H : SkP K closed l T lo hi b w) :
    Calls Try.prog 102 #[.pointer (some ⟨b, 0, none⟩)] w fun e w' => ∃ ix, IxV ix ∧ e = .returned ix ∧ Below w.heap.size w w' := by
  obtain ⟨ix, v', hx, -, -, h3, h4⟩ := H
  have x := cellAt h3 4
  simp only [serC, List.getElem?_toArray, List.getElem?_cons_zero, List.getElem?_cons_succ] at x
  clear h3 h4
  go_enter Try.func102, Try.ntmps102
  go_wp2
  go_ret
  exact ⟨_, hx, rfl, Below.refl _ _⟩
theorem msPoint {K : Nat} {closed : Bool} {l : List (Int × Int)} {T : TypeId} {lo hi b : Nat} {w : World} (H : SkP K closed l T lo hi b w) (k : Nat) (p : Int × Int) (hp : l[k]? = some p) (hl : l.length ≤ 1000) :
    Calls Try.prog 104 #[.pointer (some ⟨b, 0, none⟩), .int .i64 k] w fun e w' => e = .returned (.agg #[fl (fb p.1), fl (fb p.2)]) ∧ Below w.heap.size w w' := by
  obtain ⟨ix, v', -, -, -, h3, ⟨A, c, rfl, hk⟩⟩ := H
  obtain ⟨g, rfl, -, -, a1, a2⟩ := hk k p hp
  have x := cellAt h3 9
  have hsb := lt_of_some h3
  have hg : g < w.heap.size := World.block_lt_of_cell? w _ a1
  have hkl : k < l.length := by
    rcases Nat.lt_or_ge k l.length with h | h
    · exact h
    · rw [List.getElem?_eq_none h] at hp; cases hp
  have i1 : (k : Int) < (l.length : Int) := by omega
  simp only [serC, Nat.zero_add, List.getElem?_toArray, List.getElem?_cons_zero, List.getElem?_cons_succ] at x a1 a2
  clear h3 hk hp
  generalize l.length = n at *
  go_enter Try.func104, Try.ntmps104
  go_wp2
  exact bodyPost_ret (v := .agg #[fl (fb p.1), fl (fb p.2)]) (by simp [results, Try.results104, go_sem]) rfl ⟨rfl, by
    repeat first | exact Below.refl _ _ | refine Below.alloc ?_ (by simp <;> omega) _ | refine Below.setCell ?_ (by simp <;> omega) _⟩
theorem msRect {K : Nat} {closed : Bool} {l : List (Int × Int)} {T : TypeId} {lo hi b : Nat} {w : World} (H : SkP K closed l T lo hi b w) :
    Calls Try.prog 105 #[.pointer (some ⟨b, 0, none⟩)] w fun e w' => e = .returned (.agg #[fl (fb (box l).1), fl (fb (box l).2.1), fl (fb (box l).2.2.1), fl (fb (box l).2.2.2)]) ∧ Below w.heap.size w w' := by
  obtain ⟨ix, v', -, -, -, h, -⟩ := H
  have hlt := lt_of_some h
  have h' : (w.alloc (.cells #[fl 0, fl 0, fl 0, fl 0] 58)).heap[b]? = _ := (Below.heap_alloc w _ b hlt).trans h
  have x5 := cellAt h' 5
  have x6 := cellAt h' 6
  have x7 := cellAt h' 7
  have x8 := cellAt h' 8
  simp only [serC, List.getElem?_toArray, List.getElem?_cons_zero, List.getElem?_cons_succ] at x5 x6 x7 x8
  clear h h'
  generalize fb (box l).1 = r0 at *
  generalize fb (box l).2.1 = r1 at *
  generalize fb (box l).2.2.1 = r2 at *
  generalize fb (box l).2.2.2 = r3 at *
  go_enter Try.func105, Try.ntmps105
  go_wp2
  exact bodyPost_ret (v := .agg #[fl r0, fl r1, fl r2, fl r3]) (by simp [results, Try.results105, go_sem]) rfl ⟨rfl, by
    repeat first | exact Below.refl _ _ | refine Below.alloc ?_ (by simp <;> omega) _ | refine Below.setCell ?_ (by simp <;> omega) _⟩
theorem msEmpty {K : Nat} {closed : Bool} {l : List (Int × Int)} {T : TypeId} {lo hi b : Nat} {w : World} (H : SkP K closed l T lo hi b w) (hn : 2 ≤ l.length) (h3n : closed = true → 3 ≤ l.length) :
    Calls Try.prog 101 #[.pointer (some ⟨b, 0, none⟩)] w fun e w' => e = .returned (.bool false) ∧ Below w.heap.size w w' := by
  obtain ⟨ix, v', -, -, -, h, h4⟩ := H
  obtain ⟨A, c, rfl⟩ := h4.len
  have x0 := cellAt h 0
  have x9 := cellAt h 9
  simp only [serC, List.getElem?_toArray, List.getElem?_cons_zero, List.getElem?_cons_succ] at x0 x9
  clear h h4
  have d2 : ¬ (l.length : Int) < 2 := by omega
  have d2' := decide_eq_false d2
  cases closed with
  | true =>
    have d3 : ¬ (l.length : Int) < 3 := by have := h3n rfl; omega
    have d3' := decide_eq_false d3
    clear hn h3n
    go_enter Try.func101, Try.ntmps101
    go_wp2
    go_ret
    exact ⟨rfl, Below.refl _ _⟩
  | false =>
    clear hn h3n
    go_enter Try.func101, Try.ntmps101
    go_wp2
    go_ret
    exact ⟨rfl, Below.refl _ _⟩
theorem msValid {K : Nat} {closed : Bool} {l : List (Int × Int)} {T : TypeId} {lo hi b : Nat} {w : World} (H : SkP K closed l T lo hi b w) (hl : l.length ≤ 1000) (hb : ∀ p ∈ l, Bnd p) :
    Calls Try.prog 108 #[.pointer (some ⟨b, 0, none⟩)] w (AnyB w) := by
  obtain ⟨ix, v', -, -, -, h, h4⟩ := H
  exact bsValid_c _ l (by omega) (fun p hp => by obtain ⟨h1, h2⟩ := hb p hp; omega) v' T b lo hi w h rfl h4
theorem mlValid {K : Nat} {closed : Bool} {l : List (Int × Int)} {T : TypeId} {lo hi b : Nat} {w : World} (H : SkP K closed l T lo hi b w) (hl : l.length ≤ 1000) (hb : ∀ p ∈ l, Bnd p) :
    Calls Try.prog 107 #[.pointer (some ⟨b, 0, none⟩)] w (AnyB w) := by
  have hc := msValid H hl hb
  clear H
  go_enter Try.func107, Try.ntmps107
  go_wp2_with (go_at_call 108; refine JR.StopM.out ?_)
  refine ⟨?_⟩
  refine hc.mono ?_
  rintro e w1 ⟨ok, rfl, hb⟩
  clear hc
  go_wp2
  go_ret
  exact ⟨_, rfl, hb⟩
theorem SkP.serT {K : Nat} {closed : Bool} {l : List (Int × Int)} {T : TypeId} {lo hi b : Nat} {w : World} (H : SkP K closed l T lo hi b w) : ∃ ss, SerT w b T closed l lo hi ss := by
  obtain ⟨ix, v', -, -, -, h, h4⟩ := H
  exact ⟨_, h, rfl, rfl, v', rfl, h4⟩
theorem msNumS {K : Nat} {closed : Bool} {l : List (Int × Int)} {T : TypeId} {lo hi b : Nat} {w : World} (H : SkP K closed l T lo hi b w) (hl : l.length ≤ 1000) (h2 : 2 ≤ l.length) (hb : ∀ p ∈ l, Bnd p) :
    Calls Try.prog 48 #[.pointer (some ⟨b, 0, none⟩)] w fun e w' => e = .returned (.int .i64 (nSeg closed l)) ∧ Below w.heap.size w w' := by
  obtain ⟨ss, h⟩ := H.serT
  exact nseg_c b lo hi closed l ss w h hl h2 hb
theorem msSeg {K : Nat} {closed : Bool} {l : List (Int × Int)} {T : TypeId} {lo hi b : Nat} {w : World} (H : SkP K closed l T lo hi b w) (hl : l.length ≤ 1000) (k : Nat) (p q : Int × Int) (hp : l[k]? = some p) (hq : l[if k = l.length - 1 then 0 else k + 1]? = some q) :
    Calls Try.prog 49 #[.pointer (some ⟨b, 0, none⟩), .int .i64 k] w fun e w' => e = .returned (.agg #[fl (fb p.1), fl (fb p.2), fl (fb q.1), fl (fb q.2)]) ∧ Below w.heap.size w w' := by
  obtain ⟨ss, h⟩ := H.serT
  exact sgat_c b k lo hi closed l p q ss w h hl hp hq
end Go.Proofs.Ytkldjceopjfjhaa
