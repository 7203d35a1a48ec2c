import Derived.Test.YtlchljkmipejdaaGreatRg
set_option linter.unusedSimpArgs false
set_option linter.unusedVariables false
namespace Go.Proofs.YtlchljkmipejdaaGreat
open Go.RowKit PF JR
/-- the methods of a series that a law asks -/
theorem bsRect_c (closed cv cw : Bool) (r0 r1 r2 r3 : Nat) (vs : Value) (T : TypeId) (b : Nat) (w : World) (h : w.heap[b]? = some (.cells #[.bool closed, .bool cw, .bool cv, .int .u8 0, .nilIface, fl r0, fl r1, fl r2, fl r3, vs] T (0, 0))) :
    Calls Tryz.prog 129 #[.pointer (some ⟨b, 0, none⟩)] w fun e w' => e = .returned (.agg #[fl r0, fl r1, fl r2, fl r3]) ∧ Below w.heap.size w w' := by
  have hlt := lt_of_some h
  have h' : (w.alloc (.cells #[fl 0, fl 0, fl 0, fl 0] 62)).heap[b]? = _ := (Below.heap_alloc w _ b hlt).trans h
  have x5 := cellAt h' 5
  have x6 := cellAt h' 6
  have x7 := cellAt h' 7
  have x8 := cellAt h' 8
  simp only [List.getElem?_toArray, List.getElem?_cons_zero, List.getElem?_cons_succ] at x5 x6 x7 x8
  go_enter Tryz.func129, Tryz.ntmps129
  go_wp2
  exact bodyPost_ret (v := .agg #[fl r0, fl r1, fl r2, fl r3]) (by simp [results, Tryz.results129, go_sem]) rfl ⟨rfl, by
    repeat first | exact Below.refl _ _ | refine Below.alloc ?_ (by simp <;> omega) _ | refine Below.setCell ?_ (by simp <;> omega) _⟩

theorem bsEmpty_c (closed cv cw : Bool) (n : Nat) (r0 r1 r2 r3 : Nat) (A : Option Addr) (c : Nat) (T : TypeId) (b : Nat) (w : World) (h : w.heap[b]? = some (.cells #[.bool closed, .bool cw, .bool cv, .int .u8 0, .nilIface, fl r0, fl r1, fl r2, fl r3, .slice A n c] T (0, 0))) (hn : 3 ≤ n ∨ (closed = false ∧ 2 ≤ n)) :
    Calls Tryz.prog 122 #[.pointer (some ⟨b, 0, none⟩)] w fun e w' => e = .returned (.bool false) ∧ Below w.heap.size w w' := by
  have x0 := cellAt h 0
  have x9 := cellAt h 9
  simp only [List.getElem?_toArray, List.getElem?_cons_zero, List.getElem?_cons_succ] at x0 x9
  have d2 : ¬ (n : Int) < 2 := by omega
  have d2' := decide_eq_false d2
  cases closed with
  | true =>
    have d3 : ¬ (n : Int) < 3 := by
      rcases hn with h | h
      · omega
      · cases h.1
    have d3' := decide_eq_false d3
    clear hn
    go_enter Tryz.func122, Tryz.ntmps122
    go_wp2
    go_ret
    exact ⟨rfl, Below.refl _ _⟩
  | false =>
    clear hn
    go_enter Tryz.func122, Tryz.ntmps122
    go_wp2
    go_ret
    exact ⟨rfl, Below.refl _ _⟩
end Go.Proofs.YtlchljkmipejdaaGreat
