import Derived.Test.YtbeoijpdacpaaaaGreatQZ
import Derived.Test.YtbeoijpdacpaaaaGreatYp
set_option linter.unusedSimpArgs false
set_option linter.unusedVariables false
/-! laws.sceneAwake is true. -/
namespace PF
open Go Go.RowKit JR
theorem SlP_row {w : World} {b : Nat} {l : List (Int × Int)} {T : TypeId} (h : w.heap[b]? = some (.cells (cellsP l).toArray T (0, 0))) (c : Nat) : SlP w (.slice (some ⟨b, 0, none⟩) l.length c) l := by
  refine ⟨_, c, rfl, fun k x hx => ?_⟩
  obtain ⟨h1, h2⟩ := cellsP_get l k x hx
  have z0 := cellAt h (k * 2)
  have z1 := cellAt h (k * 2 + 1)
  simp only [List.getElem?_toArray] at z0 z1
  exact ⟨b, 0, rfl, by rw [Nat.zero_add, z0, h1], by rw [Nat.zero_add, z1, h2]⟩
theorem SlH_nil (w : World) (c : Nat) (A : Option Addr) : SlH w (.slice A 0 c) [] := ⟨A, c, rfl, fun k x hx => by simp at hx⟩
end PF
namespace Go.Proofs.YtbeoijpdacpaaaaGreat
open Go.RowKit PF JR
set_option maxRecDepth 100000 in
theorem awk_c (w : World) : Calls Tryz.prog 22 #[] w fun e w' => e = .returned (.bool true) ∧ Below w.heap.size w w' := by
  have st0 := ((Blk.nil w).push rfl (cellsP [(0, 0), (2, 0), (2, 2), (0, 2)]).toArray 65).push (b := w.heap.size + 1) (by simp) (cellsP [(-1, 1), (3, 1)]).toArray 65
  have h1 := SlP_row (l := [(0, 0), (2, 0), (2, 2), (0, 2)]) (st0.known 1 _ rfl) 4
  have h2 := SlP_row (l := [(-1, 1), (3, 1)]) (st0.known 0 _ rfl) 2
  have ok1 : ShOk 3 [(0, 0), (2, 0), (2, 2), (0, 2)] [] := ⟨by simp [Bn3], by simp, by simp, .inr (.inr (.inr ⟨rfl, by simp, by simp⟩))⟩
  have ok2 : ShOk 2 [(-1, 1), (3, 1)] [] := ⟨by simp [Bn3], by simp, by simp, .inr (.inr (.inl ⟨rfl, by simp, by simp⟩))⟩
  have hA := ask_sc (X := 0) (by omega) 3 _ _ ok1 2 _ _ (.inr (.inr (.inr ⟨rfl, .inr ⟨rfl, by decide⟩⟩))) ok2 _ (.slice none 0 0) _ (.slice none 0 0) _ h1 (SlH_nil _ 0 none) h2 (SlH_nil _ 0 none)
  have e1 : hdS 3 [(0, 0), (2, 0), (2, 2), (0, 2)] [] 2 [(-1, 1), (3, 1)] [] = false := by decide
  have e2 : mtV 3 [(0, 0), (2, 0), (2, 2), (0, 2)] [] 2 [(-1, 1), (3, 1)] [] = true := by decide
  rw [e1, e2] at hA
  simp only [cellsP, List.flatMap_cons, List.flatMap_nil, List.cons_append, List.nil_append] at st0 hA
  go_enter Tryz.func22, Tryz.ntmps22
  go_wp2_with (go_at_call 21; refine JR.StopY.out ?_)
  refine ⟨?_⟩
  refine hA.mono ?_
  rintro e w1 ⟨rfl, hb⟩
  have st1 := st0.ext hb
  go_wp2
  go_ret
  exact ⟨rfl, st1.hb⟩
theorem rsd_nn {l : List (Int × Int)} {p : Int × Int} : decide (0 ≤ rsd l p) = (aon l p (nSeg true l) || xrs l p (nSeg true l)) := by
  unfold rsd
  cases aon l p (nSeg true l) <;> cases xrs l p (nSeg true l) <;> decide
theorem phs_has {l : List (Int × Int)} (h3 : 3 ≤ l.length) (p : Int × Int) : phs l [] p = ringHas l p true := by
  unfold phs
  rw [rsd_nn, has_nobox h3]
  simp [anyN]
theorem scG_L {l m : List (Int × Int)} (h3 : 3 ≤ l.length) : scG l [] m = scL l m := by
  unfold scG scL
  congr 1
  funext i
  unfold scGi smB
  rw [phs_has h3]
  simp [anyN]
theorem okS_b {m : List (Int × Int)} (h : m.all okS = true) : (∀ p ∈ m, Bs p) ∧ ∀ p ∈ m, Bn3 p := by
  rw [List.all_eq_true] at h
  refine ⟨fun p hp => ?_, fun p hp => ?_⟩ <;> have := of_decide_eq_true (h p hp)
  · unfold Bs; omega
  · unfold Bn3; omega
theorem isc_le {l : List (Int × Int)} {n : Int} (h : iscB l n = true) : (l.length : Int) ≤ n ∧ l.all okS = true := by
  unfold iscB at h
  rw [Bool.and_eq_true, decide_eq_true_iff] at h
  exact h
end Go.Proofs.YtbeoijpdacpaaaaGreat
