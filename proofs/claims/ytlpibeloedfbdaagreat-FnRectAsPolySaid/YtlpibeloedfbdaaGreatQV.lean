import Derived.Test.YtlpibeloedfbdaaGreatSl
import Derived.LoopN
set_option linter.unusedSimpArgs false
set_option linter.unusedVariables false
namespace PF
open Go Go.RowKit
end PF
namespace Go.Proofs.YtlpibeloedfbdaaGreat
open Go.RowKit PF JR








end Go.Proofs.YtlpibeloedfbdaaGreat
set_option linter.unusedSimpArgs false
set_option linter.unusedVariables false
namespace Go.Proofs.YtlpibeloedfbdaaGreat
open Go.RowKit PF JR



theorem own_none (v : Value) : v.ownBlock = none ∨ v.ownBlock ≠ none := by cases v.ownBlock <;> simp
theorem new_cells (w : World) (T : TypeId) (x y : Value) : ∀ (j : Nat) (u : Value), [x, y][j]? = some u → (w.alloc (.cells #[x, y] T)).cell? ((⟨w.heap.size, 0, none⟩ : Addr).add j) = some u := by
  intro j u h
  have e : (⟨w.heap.size, 0, none⟩ : Addr).add j = ⟨w.heap.size, 0 + j, none⟩ := by unfold Addr.add; split <;> simp_all
  rw [e]
  have hh := heap_alloc_new w (.cells #[x, y] T)
  unfold World.cell?
  simp only [hh]
  match j, h with
  | 0, h => simpa using h
  | 1, h => simpa using h

theorem infoP : (Tryz.prog.info? 23).map (fun i => (i.zero, i.size, i.bytes)) = some (some (.agg #[.int .i64 0, .int .i64 0]), 2, 16) := by kernel_rfl

end Go.Proofs.YtlpibeloedfbdaaGreat
set_option linter.unusedSimpArgs false
set_option linter.unusedVariables false
namespace Go.Proofs.YtlpibeloedfbdaaGreat
open Go.RowKit PF JR
/-- a point whose coordinates are small -/
def _root_.PF.okP (p : Int × Int) : Bool := decide (-1024 ≤ p.1 ∧ p.1 ≤ 1024 ∧ -1024 ≤ p.2 ∧ p.2 ≤ 1024)

set_option maxHeartbeats 1000000 in
theorem isVaryP_c (l : List (Int × Int)) (hl : l.length ≤ 2147483647) (v : Value) (w : World) (hv : SlP w v l) :
    Calls Tryz.prog 10 #[v] w fun e w' => e = .returned (.bool (l.all okP)) ∧ Below w.heap.size w w' := by
  obtain ⟨A, c, rfl, hk⟩ := hv
  generalize hAns : l.all okP = ans
  go_enter Tryz.func10, Tryz.ntmps10
  go_wp2
  go_loopw [7] (fun i wr => ∃ k : Nat, k ≤ l.length ∧ i = .int .i64 k ∧ (l.take k).all okP = true ∧ Below w.heap.size w wr) (fun i _ => l.length - (intOf i).toNat)
  case atStart => exact ⟨0, Nat.zero_le _, rfl, by simp, Below.refl _ _⟩
  case round =>
    obtain ⟨k, hkl, rfl, hall, hnx⟩ := hrel
    rcases Nat.lt_or_ge k l.length with hlt | hge
    · obtain ⟨p, hp⟩ : ∃ p, l[k]? = some p := ⟨l[k], by simp [hlt]⟩
      obtain ⟨b, off, rfl, h1, h2⟩ := hk k p hp
      have g1 := (hnx.cell (World.block_lt_of_cell? w _ h1)).trans h1
      have g2 := (hnx.cell (World.block_lt_of_cell? w _ h2)).trans h2
      have hB := hnx.alloc hnx.size (.cells #[.int .i64 p.1, .int .i64 p.2] 65)
      clear h1 h2 hk hnx
      cases hok : okP p with
      | false =>
        have hans : ans = false := by
          rw [← hAns]
          cases h : l.all okP with
          | false => rfl
          | true => rw [List.all_eq_true] at h; rw [h p (List.mem_of_getElem? hp)] at hok; cases hok
        have hno := of_decide_eq_false hok
        clear hAns hall hok
        go_wp2
        all_goals first
          | (go_ret; exact ⟨by first | rfl | (rw [hans]; rfl), hB⟩)
          | (exfalso; simp at *; omega)
      | true =>
        have hyes := of_decide_eq_true hok
        have hall' : (l.take (k + 1)).all okP = true := by rw [List.take_add_one, hp]; simp [hall, hok]
        clear hAns hall hok
        obtain ⟨y1, y2, y3, y4⟩ := hyes
        go_wp2
        all_goals first
          | (exfalso; simp at *; omega)
          | skip
        go_roundw
        case rel => exact ⟨k + 1, by omega, by go_num, hall', hB⟩
        case measure => simp [intOf]; omega
    · have hkk : k = l.length := by omega
      subst hkk
      rw [List.take_length] at hall
      rw [hAns] at hall
      clear hk
      go_wp2
      go_ret
      exact ⟨by rw [hall]; rfl, hnx⟩

end Go.Proofs.YtlpibeloedfbdaaGreat
