import Derived.Test.YtlpibeloedfbdaaGreatRa
set_option linter.unusedSimpArgs false
set_option linter.unusedVariables false
namespace Go.Proofs.YtlpibeloedfbdaaGreat
open Go.RowKit PF JR

set_option maxHeartbeats 1000000 in
theorem awake_c (w : World) : Calls Tryz.prog 7 #[] w fun e w' => e = .returned (.bool true) ∧ Below w.heap.size w w' := by
  obtain ⟨ar, hr, hc⟩ := rectAsk_c 0 0 2 2 0 0 1 1 1 1 (by decide) (by decide) (by decide)
  have o := oR hr (rM 4 (by decide) 4616189618054758400 (by decide +kernel))
  simp only [show decide ((0 : Int) ≤ 1 ∧ (1 : Int) ≤ 2 ∧ (0 : Int) ≤ 1 ∧ (1 : Int) ≤ 2) = true from rfl] at hc
  go_enter Tryz.func7, Tryz.ntmps7
  go_wp2_with (go_at_call 13; refine Stop.out ?_)
  refine ⟨?_⟩
  refine (hc _).mono ?_
  rintro e w1 ⟨vp, vs, cp, cs, rfl, hb⟩
  clear hc
  go_wp2
  go_ret
  exact ⟨by simp, hb.alloc hb.size _⟩
end Go.Proofs.YtlpibeloedfbdaaGreat
