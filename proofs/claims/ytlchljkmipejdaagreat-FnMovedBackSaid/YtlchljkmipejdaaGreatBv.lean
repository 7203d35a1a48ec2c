import Derived.Test.YtlchljkmipejdaaGreatBs
set_option linter.unusedSimpArgs false
set_option linter.unusedVariables false
namespace Go.Proofs.YtlchljkmipejdaaGreat
open Go.RowKit PF JR
/-- some Bool comes back, and nothing of what lay there is changed -/
def AnyB (w : World) (e : Ending) (w' : World) : Prop := ∃ b : Bool, e = .returned (.bool b) ∧ Below w.heap.size w w'

set_option maxHeartbeats 1000000 in
theorem bsValid_c (cv0 : Array Value) (l : List (Int × Int)) (hl : l.length ≤ 2147483647) (hbd : ∀ p ∈ l, -1000000 ≤ p.1 ∧ p.1 ≤ 1000000 ∧ -1000000 ≤ p.2 ∧ p.2 ≤ 1000000) (vs : Value) (T : TypeId) (b lo hi : Nat) (w : World) (h : w.heap[b]? = some (.cells cv0 T (0, 0))) (h9 : cv0[9]? = some vs) (hv : SlQ lo hi w vs l) :
    Calls Tryz.prog 131 #[.pointer (some ⟨b, 0, none⟩)] w (AnyB w) := by
  obtain ⟨A, c, rfl, hk⟩ := hv
  have x9 := (cellAt h 9).trans h9
  go_enter Tryz.func131, Tryz.ntmps131
  go_wp2
  go_loopw [10] (fun i wr => ∃ k : Nat, k ≤ l.length ∧ i = .int .i64 k ∧ Below w.heap.size w wr) (fun i _ => l.length - (intOf i).toNat)
  case atStart => exact ⟨0, Nat.zero_le _, rfl, Below.refl _ _⟩
  case round =>
    obtain ⟨k, hkl, rfl, hnx⟩ := hrel
    rcases Nat.lt_or_ge k l.length with hlt | hge
    · obtain ⟨p, hp⟩ : ∃ p, l[k]? = some p := ⟨l[k], by simp [hlt]⟩
      obtain ⟨bb, rfl, -, -, h1, h2⟩ := hk k p hp
      have g1 := (hnx.cell (World.block_lt_of_cell? w _ h1)).trans h1
      have g2 := (hnx.cell (World.block_lt_of_cell? w _ h2)).trans h2
      simp only [Nat.zero_add] at g1 g2
      have bp := hbd p (List.mem_of_getElem? hp)
      have hB := hnx.alloc hnx.size (.cells #[fl (fb p.1), fl (fb p.2)] 60)
      have r1 := fb_rep p.1 (by omega)
      have r2 := fb_rep p.2 (by omega)
      have pv := fun u => ptv_c r1 r2 u
      generalize decide (-180 ≤ p.1 ∧ p.1 ≤ 180 ∧ -90 ≤ p.2 ∧ p.2 ≤ 90) = ok at *
      clear h1 h2 hk hbd bp r1 r2 hp
      go_wp2_with (go_at_call 56; refine JR.StopM.out ?_)
      refine ⟨?_⟩
      refine (pv _).mono ?_
      rintro e w1 ⟨rfl, hb⟩
      have hB1 := hB.trans (hb.mono hB.size)
      clear hb hB pv g1 g2
      cases ok with
      | false =>
        go_wp2
        go_ret
        exact ⟨_, rfl, hB1⟩
      | true =>
        go_wp2
        go_roundw
        case rel => exact ⟨k + 1, by omega, by go_num, hB1⟩
        case measure => simp [intOf]; omega
    · have hkk : k = l.length := by omega
      subst hkk
      clear hk
      go_wp2
      go_ret
      exact ⟨_, rfl, hnx⟩
end Go.Proofs.YtlchljkmipejdaaGreat
