import Derived.Test.YtdhljiediafeoaaEz
set_option linter.unusedSimpArgs false
set_option linter.unusedVariables false
/-! Search with the closure of SearchIn. -/
namespace Go.Proofs.Ytdhljiediafeoaa
open Go.RowKit PF JR
theorem nseg_le (closed : Bool) (l : List (Int × Int)) : nSeg closed l ≤ l.length := by
  unfold nSeg
  split
  · split
    · omega
    · split <;> omega
  · omega
theorem ent14 (args : Array Value) (u : World) : (callFunc 14 args).run Try.prog u = .ok (.enter 14 args) u := by kernel_rfl
/-- what lies in the out block while the search runs -/
def OutP (o base n : Nat) (L : List Nat) (w u : World) : Prop :=
  Keep [o] w u ∧ ∃ v, u.heap[o]? = some (.cells #[v] 34 (0, 0)) ∧ u.ownsRow base 2 1 v n (L.map iv)
theorem OutP.ext {o base n : Nat} {L : List Nat} {w u u' : World} (H : OutP o base n L w u) (h : Ext u u') : OutP o base n L w u' := by
  obtain ⟨h1, v, h2, h3⟩ := H
  refine ⟨h1.ext h, v, (h.block o (lt_of_some h2)).trans h2, ?_⟩
  cases hv : v.ownBlock with
  | none => exact h3.kept (Ext.grown h none) (.inl hv)
  | some g => exact h3.kept (Ext.grown h none) (.inr (by rw [hv]; simp))
theorem own_typ {u : World} {base n g : Nat} {T : TypeId} {v : Value} {xs : List Value} (h : u.ownsRow base T 1 v n xs) (hg : g ∈ v.ownBlock.toList) : base ≤ g ∧ ∃ cs, u.heap[g]? = some (.cells cs T (0, 0)) := by
  rcases h.2 with ⟨rfl, -⟩ | ⟨g', cap, cur, rfl, h1, h2, -⟩
  · simp [Value.ownBlock] at hg
  · simp [Value.ownBlock] at hg
    subst hg
    exact ⟨h1, cur, h2⟩
set_option maxHeartbeats 1000000 in
theorem find_c (o mb : Nat) (hne : o ≠ mb) (most : Nat) (hm1 : 1 ≤ most) (K : Nat) (hK : K ≤ 2) (closed : Bool) (l : List (Int × Int)) (hl : l.length ≤ 12) (h2l : 2 ≤ l.length) (hbd : ∀ p ∈ l, Bnd p) (r : Int × Int × Int × Int) (hr : BdR r)
    (T : TypeId) (lo hi b : Nat) (u : World) (hS : SkP K closed l T lo hi b u) (hhi : hi ≤ u.heap.size) (hol : o < lo)
    (ho : u.heap[o]? = some (.cells #[.slice none 0 0] 34 (0, 0))) (hm : u.heap[mb]? = some (.cells #[.int .i64 most] 2 (0, 0))) :
    Calls Try.prog 99 #[.pointer (some ⟨b, 0, none⟩), .agg #[fl (fb r.1), fl (fb r.2.1), fl (fb r.2.2.1), fl (fb r.2.2.2)], .func (.func 14) #[] #[.pointer (some ⟨o, 0, none⟩), .pointer (some ⟨mb, 0, none⟩)]] u
      fun e w' => e = .returned (.tuple #[]) ∧ Keep [o] u w' ∧ ∃ v, w'.heap[o]? = some (.cells #[v] 34 (0, 0)) ∧ SlN u.heap.size w'.heap.size w' v ((hitsN r l (nSeg closed l)).take most) := by
  have hN := nseg_le closed l
  have hob := lt_of_some ho
  have hmb := lt_of_some hm
  obtain ⟨ix, v', g0, g1, g2, g3, g4⟩ := hS
  have rB := hr
  obtain ⟨r1, r2, r3, r4⟩ := rB
  have key : ∀ k, Bd4 (sgx l k).1 (sgx l k).2.1 (sgx l k).2.2.1 (sgx l k).2.2.2 := fun k => sgx_bd hbd k
  have hmt : ∀ k u, Calls Try.prog 19 #[.agg #[fl (fb (sgx l k).1), fl (fb (sgx l k).2.1), fl (fb (sgx l k).2.2.1), fl (fb (sgx l k).2.2.2)], .agg #[fl (fb r.1), fl (fb r.2.1), fl (fb r.2.2.1), fl (fb r.2.2.2)]] u fun e u' => e = .returned (.bool (metR r (sgx l k))) ∧ Below u.heap.size u u' := by
    intro k u
    obtain ⟨k1, k2, k3, k4⟩ := key k
    exact rir_c (fb_rep _ (by omega)) (fb_rep _ (by omega)) (fb_rep _ (by omega)) (fb_rep _ (by omega)) (fb_rep _ (by omega)) (fb_rep _ (by omega)) (fb_rep _ (by omega)) (fb_rep _ (by omega)) u
  have H : SrchOk 14 #[.pointer (some ⟨o, 0, none⟩), .pointer (some ⟨mb, 0, none⟩)] K closed l T lo hi b ix v' (.agg #[fl (fb r.1), fl (fb r.2.1), fl (fb r.2.2.1), fl (fb r.2.2.2)]) (fun k => metR r (sgx l k))
      (fun k w => OutP o u.heap.size (hitsN r l k).length (hitsN r l k) u w ∧ (hitsN r l k).length < most)
      (fun w => OutP o u.heap.size ((hitsN r l (nSeg closed l)).take most).length ((hitsN r l (nSeg closed l)).take most) u w) := by
    refine ⟨hl, h2l, ent14, hbd, ⟨g1, g2⟩, ?_, ?_, ?_, fun k u _ => hmt k u, ?_, ?_⟩
    · rintro k w ⟨⟨hK, -⟩, -⟩
      have hk : ∀ j, lo ≤ j → j < hi → w.heap[j]? = u.heap[j]? := fun j h1 h2 => hK.block j (by omega) (by simp; omega)
      exact ⟨g0.keep fun j h1 h2 _ => hk j h1 h2, (hk b g1 g2).trans g3, g4.keep hk⟩
    · rintro k w w' ⟨h1, h2⟩ he
      exact ⟨h1.ext he, h2⟩
    · intro w w' h he
      exact h.ext he
    · rintro k w hkN hit ⟨⟨hKp, v, hv, hown⟩, hlt⟩
      have hle := hits_le r l k
      have hmw := (hKp.block mb hmb (by simp; omega)).trans hm
      refine (clo_c o mb hne most (hitsN r l k).length k u.heap.size _ v (fb (at' l k).1) (fb (at' l k).2) (fb (nxp l k).1) (fb (nxp l k).2) w hv hmw hown hKp.size (by omega) hob hmb).mono ?_
      rintro e w' ⟨rfl, v2, hv2, hown2, hK2⟩
      have hK3 : Keep [o] u w' := ⟨hK2.os.trans hKp.os, hK2.tape.trans hKp.tape, hK2.output.trans hKp.output, Nat.le_trans hKp.size hK2.size, fun j hj hx => (hK2.block j (Nat.lt_of_lt_of_le hj hKp.size) (fun h => by
        rcases List.mem_cons.1 h with h | h
        · exact hx (by simp [h])
        · have := (own_typ hown h).1; omega)).trans (hKp.block j hj hx)⟩
      have hy := hits_yes hit
      have hout : OutP o u.heap.size (hitsN r l (k + 1)).length (hitsN r l (k + 1)) u w' := by
        refine ⟨hK3, v2, hv2, ?_⟩
        rw [hy, List.length_append, List.map_append]
        exact hown2
      refine ⟨_, rfl, fun hc => ⟨hout, ?_⟩, fun hc => ?_, hK2.size, fun j cs T hT hj => ?_⟩
      · rw [hy, List.length_append]
        have := of_decide_eq_true hc
        simp
        omega
      · have := of_decide_eq_false hc
        have e1 : (hitsN r l (k + 1)).length = most := by rw [hy, List.length_append]; simp; omega
        rw [hits_take (by omega) e1]
        exact hout
      · refine (hK2.block j (lt_of_some hj) (fun h => ?_)).trans hj
        rcases List.mem_cons.1 h with rfl | h
        · rw [hv] at hj
          cases hj
          rcases hT with h | h <;> cases h
        · obtain ⟨-, cs', h2⟩ := own_typ hown h
          rw [h2] at hj
          cases hj
          rcases hT with h | h <;> cases h
    · rintro k w hkN hit ⟨h1, h2⟩
      rw [hits_no hit]
      exact ⟨h1, h2⟩
  refine (search_c 14 _ K hK closed l T lo hi b _ _ _ _ ix v' _ _ _ (metR r (rbx l (nSeg closed l))) H ?_ ?_ u ⟨⟨Keep.refl _ _, _, ho, World.ownsRow_nil _ _ _ _⟩, hm1⟩).mono ?_
  · intro _ _ w
    obtain ⟨k1, k2, k3, k4⟩ := rbx_bd hbd (nSeg closed l)
    refine (rir_c (fb_rep _ (by omega)) (fb_rep _ (by omega)) (fb_rep _ (by omega)) (fb_rep _ (by omega)) (fb_rep _ (by omega)) (fb_rep _ (by omega)) (fb_rep _ (by omega)) (fb_rep _ (by omega)) w).mono ?_
    rintro e w' ⟨rfl, hb⟩
    refine ⟨?_, hb⟩
    unfold metR
    congr 2
    apply decide_eq_decide.2
    constructor
    · rintro ⟨a, b, c, d⟩; exact ⟨b, a, d, c⟩
    · rintro ⟨a, b, c, d⟩; exact ⟨b, a, d, c⟩
  · intro hf k hk
    obtain ⟨a, b, c, d⟩ := rbx_in l (nSeg closed l) k hk
    unfold metR at hf ⊢
    have := of_decide_eq_false hf
    exact decide_eq_false (by omega)
  · rintro e w' ⟨rfl, h⟩
    refine ⟨rfl, ?_⟩
    rcases h with ⟨⟨hK, v, hv, hown⟩, hlt⟩ | ⟨hK, v, hv, hown⟩
    · refine ⟨hK, v, hv, ?_⟩
      rw [List.take_of_length_le (by omega)]
      exact SlN.own hown
    · exact ⟨hK, v, hv, SlN.own hown⟩
end Go.Proofs.Ytdhljiediafeoaa
