import Derived.Test.YtlpibeloedfbdaaGreatQH
import Derived.Test.YtlpibeloedfbdaaGreatVn
import Derived.Test.YtlpibeloedfbdaaGreatVr
set_option linter.unusedSimpArgs false
set_option linter.unusedVariables false
/-! laws.isVary: what a shape is where it answers true. -/
namespace PF
open Go Go.RowKit JR
structure Stop1 (p : Prop) : Prop where out : p
def VaryS (K : Int) (l : List (Int × Int)) (H : List (List (Int × Int))) : Prop :=
  l.all okP = true ∧ H.length ≤ 3 ∧ (K ≠ 3 → H = []) ∧ (∀ h ∈ H, 3 ≤ h.length ∧ h.length ≤ 8 ∧ h.all okP = true) ∧
  ((K = 0 ∧ l.length = 1) ∨ (K = 1 ∧ ∃ X0 Y0 X1 Y1, l = [(X0, Y0), (X1, Y1)] ∧ X0 < X1 ∧ Y0 < Y1) ∨ (K = 2 ∧ 2 ≤ l.length ∧ l.length ≤ 12) ∨ (K = 3 ∧ 3 ≤ l.length ∧ l.length ≤ 12))
def IsvP (K : Int) (l : List (Int × Int)) (H : List (List (Int × Int))) (w : World) (e : Ending) (w' : World) : Prop :=
  ∃ b : Bool, e = .returned (.bool b) ∧ (b = true → VaryS K l H) ∧ Below w.heap.size w w'
theorem IsvP.no {K : Int} {l : List (Int × Int)} {H : List (List (Int × Int))} {w w' : World} {e : Ending} (h : e = .returned (.bool false)) (hB : Below w.heap.size w w') : IsvP K l H w e w' := ⟨false, h, fun h => (nomatch h), hB⟩
theorem IsvP.yes {K : Int} {l : List (Int × Int)} {H : List (List (Int × Int))} {w w' : World} {e : Ending} (b : Bool) (h : e = .returned (.bool b)) (hV : b = true → VaryS K l H) (hB : Below w.heap.size w w') : IsvP K l H w e w' := ⟨b, h, hV, hB⟩
end PF
namespace Go.Proofs.YtlpibeloedfbdaaGreat
open Go.RowKit PF JR

set_option maxHeartbeats 2000000 in
set_option maxRecDepth 100000 in
theorem isVaryS_c (K : Int) (l : List (Int × Int)) (H : List (List (Int × Int))) (hl0 : l.length ≤ 2147483647) (hl : ∀ h ∈ H, h.length ≤ 2147483647) (v vh : Value) (w : World) (hv : SlP w v l) (hh : SlH w vh H) :
    Calls Tryz.prog 5 #[.agg #[.int .i64 K, v, vh]] w (IsvP K l H w) := by
  have hv0 := hv
  obtain ⟨A, c, rfl, hkl⟩ := hv
  obtain ⟨A', c', rfl, hkh⟩ := hh
  have st0 := (Blk.nil w).push rfl #[.int .i64 K, .slice A l.length c, .slice A' H.length c'] 28
  have s0 := hv0.below st0.hb
  go_enter Tryz.func5, Tryz.ntmps5
  go_wp2_with (first | (go_at_call 11; refine Stop1.out ?_) | (go_at_call 10; refine Stop1.out ?_))
  refine ⟨?_⟩
  refine (varyOf_c l hl0 _ _ s0).mono ?_
  rintro e w1 ⟨v1, rfl, sv1, hb⟩
  have st1 := st0.ext hb
  clear hb
  go_wp2_with (first | (go_at_call 11; refine Stop1.out ?_) | (go_at_call 10; refine Stop1.out ?_))
  refine ⟨?_⟩
  refine (isVaryP_c l hl0 _ _ sv1).mono ?_
  rintro e w2 ⟨rfl, hb⟩
  have st2 := st1.ext hb
  clear hb st0 st1 sv1 s0 hv0
  have hB := st2.hb
  have c0 := st2.cell 0 rfl 0
  have c1 := st2.cell 0 rfl 1
  have c2 := st2.cell 0 rfl 2
  simp only [List.getElem?_toArray, List.getElem?_cons_zero, List.getElem?_cons_succ] at c0 c1 c2
  cases hok : l.all okP
  case false =>
    go_wp2
    go_ret
    exact IsvP.no rfl hB
  by_cases hH3 : H.length ≤ 3
  case neg =>
    have d1 : (3 : Int) < (H.length : Int) := by omega
    have d2 := decide_eq_true d1
    go_wp2
    go_ret
    exact IsvP.no rfl hB
  have d1 : ¬ (3 : Int) < (H.length : Int) := by omega
  have d2 := decide_eq_false d1
  by_cases hK : K = 3
  case neg =>
    have e1 : (K != 3) = true := by simp [hK]
    by_cases hH0 : H = []
    case neg =>
      have hlen : 0 < H.length := List.length_pos_iff.2 hH0
      have d3 : (0 : Int) < (H.length : Int) := by omega
      have d4 := decide_eq_true d3
      go_wp2
      go_ret
      exact IsvP.no rfl hB
    subst hH0
    clear hkh hl d1 d2 hH3
    go_wp2
    refine wp_loop_rounds 1 ?_
    rw [rounds_succ]
    by_cases k0 : K = 0
    case pos =>
      subst k0
      by_cases n1 : l.length = 1
      · have d3 : ((l.length : Nat) : Int) = 1 := by omega
        have d4 : (((l.length : Nat) : Int) == 1) = true := by simp [d3]
        go_wp2
        go_ret
        exact IsvP.yes _ rfl (fun _ => ⟨hok, by simp, fun _ => rfl, by simp, .inl ⟨rfl, n1⟩⟩) hB
      · have d4 : (((l.length : Nat) : Int) == 1) = false := beq_eq_false_iff_ne.2 (by omega)
        go_wp2
        go_ret
        exact IsvP.no rfl hB
    have q0 : (K == 0) = false := beq_eq_false_iff_ne.2 k0
    by_cases k1 : K = 1
    case pos =>
      subst k1
      by_cases n2 : l.length = 2
      · match l, n2 with
        | [(X0, Y0), (X1, Y1)], _ =>
          obtain ⟨b, off, rfl, h1, h2⟩ := hkl 0 _ rfl
          obtain ⟨b', off', hA, h3, h4⟩ := hkl 1 _ rfl
          cases hA
          have g1 := (hB.cell (World.block_lt_of_cell? w _ h1)).trans h1
          have g2 := (hB.cell (World.block_lt_of_cell? w _ h2)).trans h2
          have g3 := (hB.cell (World.block_lt_of_cell? w _ h3)).trans h3
          have g4 := (hB.cell (World.block_lt_of_cell? w _ h4)).trans h4
          simp only [Nat.zero_mul, Nat.one_mul, Nat.add_zero, List.length_cons, List.length_nil, Nat.zero_add, Nat.reduceAdd] at g1 g2 g3 g4 c1
          clear h1 h2 h3 h4 hkl
          by_cases p1 : X0 < X1
          · by_cases p2 : Y0 < Y1
            · have d5 := decide_eq_true p1
              have d6 := decide_eq_true p2
              go_wp2
              go_quiet (fail)
              go_wp2
              go_ret
              exact IsvP.yes _ rfl (fun _ => ⟨hok, by simp, fun _ => rfl, by simp, .inr (.inl ⟨rfl, X0, Y0, X1, Y1, rfl, p1, p2⟩)⟩) (below_drewN hB _)
            · have d5 := decide_eq_true p1
              have d6 := decide_eq_false p2
              go_wp2
              go_quiet (fail)
              go_wp2
              go_ret
              exact IsvP.no rfl (below_drewN hB _)
          · have d5 := decide_eq_false p1
            go_wp2
            go_quiet (fail)
            go_wp2
            go_ret
            exact IsvP.no rfl (below_drewN hB _)
      · have d4 : (((l.length : Nat) : Int) == 2) = false := beq_eq_false_iff_ne.2 (by omega)
        clear hkl
        go_wp2
        go_quiet (fail)
        go_wp2
        go_ret
        exact IsvP.no rfl (below_drewN hB _)
    have q1 : (K == 1) = false := beq_eq_false_iff_ne.2 k1
    by_cases k2 : K = 2
    case pos =>
      subst k2
      by_cases n2 : 2 ≤ l.length
      · have d3 := decide_eq_true (show (2 : Int) ≤ (l.length : Int) by omega)
        by_cases n3 : l.length ≤ 12
        · have d4 := decide_eq_true (show (l.length : Int) ≤ 12 by omega)
          go_wp2
          go_ret
          exact IsvP.yes _ rfl (fun _ => ⟨hok, by simp, fun _ => rfl, by simp, .inr (.inr (.inl ⟨rfl, n2, n3⟩))⟩) hB
        · have d4 := decide_eq_false (show ¬ (l.length : Int) ≤ 12 by omega)
          go_wp2
          go_ret
          exact IsvP.no rfl hB
      · have d3 := decide_eq_false (show ¬ (2 : Int) ≤ (l.length : Int) by omega)
        go_wp2
        go_ret
        exact IsvP.no rfl hB
    have q2 : (K == 2) = false := beq_eq_false_iff_ne.2 k2
    have q3 : (K == 3) = false := beq_eq_false_iff_ne.2 hK
    go_wp2
    go_ret
    exact IsvP.no rfl hB
  subst hK
  go_wp2
  go_loopw [34] (fun i wr => ∃ k : Nat, k ≤ H.length ∧ i = .int .i64 k ∧ (∀ h ∈ H.take k, 3 ≤ h.length ∧ h.length ≤ 8 ∧ h.all okP = true) ∧ Blk w wr [(w.heap.size, #[.int .i64 3, .slice A l.length c, .slice A' H.length c'], 28)]) (fun i _ => H.length - (intOf i).toNat)
  case atStart => exact ⟨0, Nat.zero_le _, rfl, by simp, st2⟩
  case round =>
    obtain ⟨k, hkle, rfl, hall, hS⟩ := hrel
    clear c0 c1 c2 hB
    have c0 := hS.cell 0 rfl 0
    have c1 := hS.cell 0 rfl 1
    have c2 := hS.cell 0 rfl 2
    simp only [List.getElem?_toArray, List.getElem?_cons_zero, List.getElem?_cons_succ] at c0 c1 c2
    rcases Nat.lt_or_ge k H.length with hlt | hge
    · obtain ⟨h, hh⟩ : ∃ h, H[k]? = some h := ⟨H[k], by simp [hlt]⟩
      obtain ⟨b, off, vx, rfl, h1, h2⟩ := hkh k h hh
      have s3 := h2.below hS.hb
      obtain ⟨A2, c3, rfl⟩ := h2.len
      have g1 := (hS.hb.cell (World.block_lt_of_cell? w _ h1)).trans h1
      have hlen := hl h (List.mem_of_getElem? hh)
      clear h1 h2 hkh hkl st2 d1 d2
      by_cases m1 : h.length < 3
      · have d1 : (h.length : Int) < 3 := by omega
        have d2 := decide_eq_true d1
        go_wp2
        go_ret
        exact IsvP.no rfl hS.hb
      have d1 : ¬ (h.length : Int) < 3 := by omega
      have d2 := decide_eq_false d1
      by_cases m2 : 8 < h.length
      · have d3 : (8 : Int) < (h.length : Int) := by omega
        have d4 := decide_eq_true d3
        go_wp2
        go_ret
        exact IsvP.no rfl hS.hb
      have d3 : ¬ (8 : Int) < (h.length : Int) := by omega
      have d4 := decide_eq_false d3
      go_wp2_with (first | (go_at_call 11; refine Stop1.out ?_) | (go_at_call 10; refine Stop1.out ?_))
      refine ⟨?_⟩
      refine (varyOf_c h hlen _ _ s3).mono ?_
      rintro e w3 ⟨v3, rfl, sv3, hb⟩
      have hS1 := hS.ext hb
      clear hb
      go_wp2_with (first | (go_at_call 11; refine Stop1.out ?_) | (go_at_call 10; refine Stop1.out ?_))
      refine ⟨?_⟩
      refine (isVaryP_c h hlen _ _ sv3).mono ?_
      rintro e w4 ⟨rfl, hb⟩
      have hS2 := hS1.ext hb
      clear hb hS1 sv3 hS c0 c1 c2 s3 g1
      cases hoh : h.all okP
      case false =>
        go_wp2
        go_ret
        exact IsvP.no rfl hS2.hb
      go_wp2
      go_roundw
      case rel =>
        refine ⟨k + 1, by omega, by go_num, ?_, hS2⟩
        intro x hx
        rw [List.take_add_one, hh] at hx
        simp at hx
        rcases hx with hx | rfl
        · exact hall x hx
        · exact ⟨by omega, by omega, hoh⟩
      case measure => simp [intOf]; omega
    · have hkk : k = H.length := by omega
      subst hkk
      rw [List.take_length] at hall
      clear hkh hkl d1 d2 st2
      by_cases n2 : 3 ≤ l.length
      · have d3 := decide_eq_true (show (3 : Int) ≤ (l.length : Int) by omega)
        by_cases n3 : l.length ≤ 12
        · have d4 := decide_eq_true (show (l.length : Int) ≤ 12 by omega)
          go_wp2
          go_ret
          exact IsvP.yes _ rfl (fun _ => ⟨hok, hH3, fun h => absurd rfl h, hall, .inr (.inr (.inr ⟨rfl, n2, n3⟩))⟩) hS.hb
        · have d4 := decide_eq_false (show ¬ (l.length : Int) ≤ 12 by omega)
          go_wp2
          go_ret
          exact IsvP.no rfl hS.hb
      · have d3 := decide_eq_false (show ¬ (3 : Int) ≤ (l.length : Int) by omega)
        go_wp2
        go_ret
        exact IsvP.no rfl hS.hb
end Go.Proofs.YtlpibeloedfbdaaGreat
set_option linter.unusedSimpArgs false
set_option linter.unusedVariables false
/-! varyShape of every kind: results with block ranges (printed by gen/hw.py). -/
namespace PF
open Go Go.RowKit JR
theorem SlR.keep' {l h : Nat} {w w' : World} {v : Value} {L : List (Int × Int)} (hk : ∀ b, l ≤ b → b < h → b < w.heap.size → w'.heap[b]? = w.heap[b]?) (H : SlR l h w v L) : SlR l h w' v L := by
  obtain ⟨A, c, hv, hh⟩ := H
  refine ⟨A, c, hv, fun k p hp => ?_⟩
  obtain ⟨b, h1, h4, h5, h2, h3⟩ := hh k p hp
  have hb := World.block_lt_of_cell? w _ h2
  exact ⟨b, h1, h4, h5, (World.cell?_of_block (hk b h4 h5 hb)).trans h2, (World.cell?_of_block (hk b h4 h5 hb)).trans h3⟩
theorem SlR.len {l h : Nat} {w : World} {v : Value} {L : List (Int × Int)} (H : SlR l h w v L) : ∃ A c, v = .slice A L.length c := by
  obtain ⟨A, c, hv, _⟩ := H
  exact ⟨A, c, hv⟩
theorem SlR.one {lo h : Nat} {u : World} {v : Value} {l : List (Int × Int)} (H : SlR lo h u v l) (hne : 0 < l.length) : ∃ b, lo ≤ b ∧ b < h ∧ b < u.heap.size ∧ SlR b (b + 1) u v l := by
  obtain ⟨A, c, hv, hk⟩ := H
  obtain ⟨b, hA, h1, h2, h3, -⟩ := hk 0 (l[0]) (by simp [hne])
  refine ⟨b, h1, h2, World.block_lt_of_cell? u _ h3, A, c, hv, fun k p hp => ?_⟩
  obtain ⟨b', hA', -, -, g1, g2⟩ := hk k p hp
  rw [hA] at hA'
  cases hA'
  exact ⟨b, hA, Nat.le_refl _, by omega, g1, g2⟩
theorem SlH.own {w : World} {base : Nat} {T : TypeId} {v : Value} {xs : List Value} {H : List (List (Int × Int))} (hown : w.ownsRow base T 1 v H.length xs)
    (hqs : ∀ (j : Nat) (x : List (Int × Int)), j < H.length → H[j]? = some x → ∃ y, xs[j]? = some y ∧ SlP w y x) : SlH w v H := by
  rcases id hown.2 with ⟨rfl, h0⟩ | ⟨g, cap, cur, rfl, _⟩
  · have : H = [] := List.eq_nil_of_length_eq_zero h0
    subst this
    exact ⟨none, 0, rfl, fun k p hp => by simp at hp⟩
  · refine ⟨_, _, rfl, fun k x hx => ?_⟩
    have hkl : k < H.length := by
      rcases Nat.lt_or_ge k H.length with h | h
      · exact h
      · rw [List.getElem?_eq_none h] at hx; cases hx
    obtain ⟨y, e1, e3⟩ := hqs k x hkl hx
    have a1 := hown.cells (g := g) rfl _ _ e1
    have e : (⟨g, 0, none⟩ : Addr).add k = ⟨g, 0 + k, none⟩ := by unfold Addr.add; split <;> simp_all
    rw [e] at a1
    exact ⟨g, 0, y, rfl, a1, e3⟩
theorem SlR.wide {l h l' h' : Nat} {w : World} {v : Value} {L : List (Int × Int)} (H : SlR l h w v L) (h1 : l' ≤ l) (h2 : h ≤ h') : SlR l' h' w v L := by
  obtain ⟨A, c, hv, hh⟩ := H
  refine ⟨A, c, hv, fun k p hp => ?_⟩
  obtain ⟨b, h1, h4, h5, h2, h3⟩ := hh k p hp
  exact ⟨b, h1, by omega, by omega, h2, h3⟩
/-- a slice of slices of points, all of it in blocks from number lo up to hi -/
def SlHR (lo hi : Nat) (w : World) (v : Value) (H : List (List (Int × Int))) : Prop :=
  ∃ A c, v = .slice A H.length c ∧ ∀ k h, H[k]? = some h → ∃ b y, A = some ⟨b, 0, none⟩ ∧ lo ≤ b ∧ b < hi ∧ w.cell? ⟨b, 0 + k, none⟩ = some y ∧ SlR lo hi w y h
theorem SlHR.h {lo hi : Nat} {w : World} {v : Value} {H : List (List (Int × Int))} (h : SlHR lo hi w v H) : SlH w v H := by
  obtain ⟨A, c, hv, hk⟩ := h
  refine ⟨A, c, hv, fun k x hx => ?_⟩
  obtain ⟨b, y, h1, -, -, h2, h3⟩ := hk k x hx
  exact ⟨b, 0, y, h1, h2, h3.p⟩
theorem SlHR.keep {lo hi : Nat} {w w' : World} {v : Value} {H : List (List (Int × Int))} (hb : ∀ b, lo ≤ b → b < hi → w'.heap[b]? = w.heap[b]?) (h : SlHR lo hi w v H) : SlHR lo hi w' v H := by
  obtain ⟨A, c, hv, hk⟩ := h
  refine ⟨A, c, hv, fun k x hx => ?_⟩
  obtain ⟨b, y, h1, h4, h5, h2, h3⟩ := hk k x hx
  exact ⟨b, y, h1, h4, h5, (World.cell?_of_block (hb b h4 h5)).trans h2, h3.keep hb⟩
theorem SlHR.own {w : World} {base lo hi : Nat} {T : TypeId} {v : Value} {xs : List Value} {H : List (List (Int × Int))} (hown : w.ownsRow base T 1 v H.length xs) (h1 : lo ≤ base) (h2 : w.heap.size ≤ hi)
    (hqs : ∀ (j : Nat) (x : List (Int × Int)), j < H.length → H[j]? = some x → ∃ y, xs[j]? = some y ∧ SlR lo hi w y x) : SlHR lo hi w v H := by
  have hlt := fun g hg => hown.lt g hg
  rcases id hown.2 with ⟨rfl, h0⟩ | ⟨g, cap, cur, rfl, _⟩
  · have : H = [] := List.eq_nil_of_length_eq_zero h0
    subst this
    exact ⟨none, 0, rfl, fun k p hp => by simp at hp⟩
  · refine ⟨_, _, rfl, fun k x hx => ?_⟩
    have hkl : k < H.length := by
      rcases Nat.lt_or_ge k H.length with h | h
      · exact h
      · rw [List.getElem?_eq_none h] at hx; cases hx
    obtain ⟨y, e1, e3⟩ := hqs k x hkl hx
    have a1 := hown.cells (g := g) rfl _ _ e1
    have e : (⟨g, 0, none⟩ : Addr).add k = ⟨g, 0 + k, none⟩ := by unfold Addr.add; split <;> simp_all
    rw [e] at a1
    have hg := hlt g rfl
    exact ⟨g, y, rfl, by omega, by omega, a1, e3⟩
end PF
namespace Go.Proofs.YtlpibeloedfbdaaGreat
open Go.RowKit PF JR
end Go.Proofs.YtlpibeloedfbdaaGreat
