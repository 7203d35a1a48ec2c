import Derived.Test.YtdhljiediafeoaaFb
set_option linter.unusedSimpArgs false
set_option linter.unusedVariables false
/-! The closure of FnSearchParts; what the searches of two halves give. -/
namespace PF
open Go Go.RowKit JR
theorem count_snoc (L : List Nat) (a i : Nat) : (L ++ [a]).count i = L.count i + if a = i then 1 else 0 := by
  rw [List.count_append, List.count_singleton]
  simp only [beq_iff_eq]
theorem hits_count (r : Int × Int × Int × Int) (l : List (Int × Int)) (i : Nat) : ∀ n, (hitsN r l n).count i = if i < n ∧ metR r (sgx l i) = true then 1 else 0 := by
  intro n
  induction n with
  | zero => simp [hitsN]
  | succ n ih =>
    cases hm : metR r (sgx l n) with
    | true =>
      rw [hits_yes hm, count_snoc, ih]
      by_cases h : n = i
      · subst h; simp [hm]
      · rw [if_neg h, Nat.add_zero]
        by_cases h1 : i < n
        · have : i < n + 1 := by omega
          simp [h1, this]
        · have : ¬ i < n + 1 := by omega
          simp [h1, this]
    | false =>
      rw [hits_no hm, ih]
      by_cases h : n = i
      · subst h; simp [hm]
      · by_cases h1 : i < n
        · have : i < n + 1 := by omega
          simp [h1, this]
        · have : ¬ i < n + 1 := by omega
          simp [h1, this]
theorem metR_cut (X0 Y0 X1 Y1 c : Int) (s : Int × Int × Int × Int) (h0 : X0 ≤ c) (h1 : c ≤ X1) (hs : s.1 ≤ s.2.2.1) : metR (X0, Y0, X1, Y1) s = (metR (X0, Y0, c, Y1) s || metR (c, Y0, X1, Y1) s) := by
  unfold metR
  rw [Bool.eq_iff_iff]
  simp only [Bool.or_eq_true, decide_eq_true_eq]
  omega
theorem sgx_le (l : List (Int × Int)) (k : Nat) : (sgx l k).1 ≤ (sgx l k).2.2.1 := by
  unfold sgx
  dsimp only
  omega
/-- what the claim says of each segment -/
theorem parts_has (X0 Y0 X1 Y1 c : Int) (l : List (Int × Int)) (n i : Nat) (h0 : X0 ≤ c) (h1 : c ≤ X1) :
    (decide ((hitsN (X0, Y0, X1, Y1) l n).count i = 1)) = (decide ((hitsN (X0, Y0, c, Y1) l n).count i = 1) || decide ((hitsN (c, Y0, X1, Y1) l n).count i = 1)) := by
  rw [hits_count, hits_count, hits_count, metR_cut X0 Y0 X1 Y1 c (sgx l i) h0 h1 (sgx_le l i)]
  by_cases h : i < n
  · cases metR (X0, Y0, c, Y1) (sgx l i) <;> cases metR (c, Y0, X1, Y1) (sgx l i) <;> simp [h]
  · simp [h]
theorem count_take_succ (L : List Nat) (k i p : Nat) (h : L[k]? = some p) : (L.take (k + 1)).count i = (L.take k).count i + if p = i then 1 else 0 := by
  rw [List.take_add_one, h]
  exact count_snoc _ _ _
end PF
namespace Go.Proofs.Ytdhljiediafeoaa
open Go.RowKit PF JR
set_option maxRecDepth 100000 in
set_option maxHeartbeats 2000000 in
theorem has_c (L : List Nat) (hL : L.length ≤ 1000) (i lo hi : Nat) (v : Value) (w : World) (hv : SlN lo hi w v L) :
    Calls Try.prog 8 #[v, .int .i64 i] w fun e w' => e = .returned (.bool (decide (L.count i = 1))) ∧ Below w.heap.size w w' := by
  obtain ⟨A, c, rfl, hk⟩ := hv
  go_enter Try.func8, Try.ntmps8
  go_wp2
  go_loopw [5, 10] (fun f j wr => ∃ k : Nat, k ≤ L.length ∧ f = .int .i64 ((L.take k).count i : Nat) ∧ j = .int .i64 k ∧ Below w.heap.size w wr) (fun _ j _ => L.length - (intOf j).toNat)
  case atStart => exact ⟨0, Nat.zero_le _, by simp, rfl, Below.refl _ _⟩
  case round =>
    obtain ⟨k, hkl, rfl, rfl, hB⟩ := hrel
    rcases Nat.lt_or_ge k L.length with hlt | hge
    · obtain ⟨p, hp⟩ : ∃ p, L[k]? = some p := ⟨L[k], by simp [hlt]⟩
      obtain ⟨b, rfl, -, -, h1⟩ := hk k p hp
      have g1 := (hB.cell (World.block_lt_of_cell? w _ h1)).trans h1
      unfold iv at g1
      have hlt' : (k : Int) < (L.length : Int) := by omega
      have hct : ((L.take k).count i) ≤ k := by
        have := List.count_le_length (a := i) (l := L.take k)
        simp at this
        omega
      have hcs := count_take_succ L k i p hp
      clear hk h1
      by_cases hpi : p = i
      · subst hpi
        rw [if_pos rfl] at hcs
        go_wp2
        exact ⟨⟨k + 1, hlt, by rw [hcs]; rfl, rfl, hB⟩, by simp only [intOf]; omega⟩
      · have hpi' : (p : Int) ≠ i := by omega
        rw [if_neg hpi, Nat.add_zero] at hcs
        go_wp2
        exact ⟨⟨k + 1, hlt, by rw [hcs]; rfl, rfl, hB⟩, by simp only [intOf]; omega⟩
    · obtain rfl : k = L.length := by omega
      rw [List.take_length]
      go_wp2
      go_ret
      refine ⟨?_, hB⟩
      have e : (((L.count i : Nat) : Int) == 1) = decide (L.count i = 1) := by
        rw [Bool.eq_iff_iff]; simp only [beq_iff_eq, decide_eq_true_eq]; omega
      show Ending.returned (Value.bool (((L.count i : Nat) : Int) == 1)) = _
      rw [e]
end Go.Proofs.Ytdhljiediafeoaa
