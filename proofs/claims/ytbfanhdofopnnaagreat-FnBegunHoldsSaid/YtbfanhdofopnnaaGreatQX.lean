import Derived.Test.YtbfanhdofopnnaaGreatQA
import Derived.Test.YtbfanhdofopnnaaGreatVn
import Derived.Test.YtbfanhdofopnnaaGreatJd
import Derived.Test.YtbfanhdofopnnaaGreatHw
set_option linter.unusedSimpArgs false
set_option linter.unusedVariables false
/-! varyTo, spec.VaryBegun, spec.VaryArea. -/
namespace Go.Proofs.YtbfanhdofopnnaaGreat
open Go.RowKit PF JR
theorem bgn_get (l : List (Int × Int)) (a : Nat) (back : Bool) (k : Nat) (hk : k < l.length) : (bgn l a back)[k]? = some (at' l (bgI l.length a back k)) := by
  rw [at_get (by rw [bgn_len]; exact hk), bgn_at _ _ _ _ hk]
set_option maxRecDepth 100000 in
set_option maxHeartbeats 2000000 in
theorem vBegun_c (l : List (Int × Int)) (a : Nat) (back : Bool) (hl : l.length ≤ 1000) (ha : a < l.length) (v : Value) (w : World) (hv : SlP w v l) :
    Calls Tryz.prog 18 #[v, .int .i64 a, .bool back] w fun e w' => ∃ v', e = .returned v' ∧ SlR w.heap.size w'.heap.size w' v' (bgn l a back) ∧ Below w.heap.size w w' := by
  have hbl := bgn_len l a back
  obtain ⟨A, c, rfl, hk⟩ := hv
  obtain ⟨i0, hi, hz0, hz1, hz2⟩ := info_parts infoVP
  go_enter Tryz.func18, Tryz.ntmps18
  go_wp2
  go_loopw [7, 12] (fun v i wr => ∃ k : Nat, k ≤ l.length ∧ i = .int .i64 k ∧ wr.ownsRow w.heap.size 59 2 v k (cellsP ((bgn l a back).take k)) ∧ Below w.heap.size w wr) (fun _ i _ => l.length - (intOf i).toNat)
  case atStart => exact ⟨0, Nat.zero_le _, rfl, World.ownsRow_nil _ _ _ _, Below.refl _ _⟩
  case round =>
    obtain ⟨k, hkl, rfl, hown, hnx⟩ := hrel
    have hsz := hnx.size
    rcases Nat.lt_or_ge k l.length with hlt | hge
    · have hp := bgn_get l a back k hlt
      have hj : bgI l.length a back k < l.length := by unfold bgI; split <;> exact Nat.mod_lt _ (by omega)
      have hq := at_get hj
      have i2 : ((a : Int) + (k : Int)).tmod (l.length : Int) = ((a + k) % l.length : Nat) := by rw [Int.tmod_eq_emod_of_nonneg (by omega)]; simp
      have i4 : ((a : Int) + (l.length : Int) - (k : Int)).tmod (l.length : Int) = ((a + l.length - k) % l.length : Nat) := by
        rw [Int.tmod_eq_emod_of_nonneg (by omega), show (a : Int) + (l.length : Int) - (k : Int) = ((a + l.length - k : Nat) : Int) from by omega]; simp
      have i5 : bgI l.length a back k = if back then (a + l.length - k) % l.length else (a + k) % l.length := rfl
      generalize hj' : bgI l.length a back k = j at *
      obtain ⟨b, off, rfl, h1, h2⟩ := hk j _ hq
      have g1 := (hnx.cell (World.block_lt_of_cell? w _ h1)).trans h1
      have g2 := (hnx.cell (World.block_lt_of_cell? w _ h2)).trans h2
      generalize at' l j = p at *
      have i6 : (j : Int) < (l.length : Int) := by omega
      have i7 : ((a : Int) + (k : Int)) < 9223372036854775807 := by omega
      clear h1 h2 hk hq hj'
      cases back with
      | false =>
        simp only [Bool.false_eq_true, if_false] at i5
        rw [← i5] at i2
        clear i4 i5
        generalize l.length = n at *
        go_wp2_with (first | (at_builtin; refine wpList_append_own _ rfl _ _ 37 rfl w.heap.size 59 i0 (.agg #[.int .i64 0, .int .i64 0]) 2 16 Tryz.underlying37 hi hz0 hz1 hz2 rfl (by decide) _ _ _ rfl (hown.alloc _) ⟨wr.heap.size, 0, none⟩ 1 1 [.int .i64 p.1, .int .i64 p.2] rfl rfl ?c1 ?c2 ?c3 ?c4 ?c5 ?_))
        case c1 => exact new_cells _ _ _ _
        case c2 => intro u hu; simp at hu; rcases hu with rfl | rfl <;> rfl
        case c3 => unfold maxLen; omega
        case c4 => omega
        case c5 => simp; omega
        intro v' w1 hown' hgrow _
        have hB := row_below (hnx.alloc hnx.size _) hgrow (fun g hg => (hown.lt g hg).1) (by simp; omega)
        rw [← cellsP_snoc _ k p hp] at hown'
        clear hgrow hown hnx
        go_wp2
        go_roundw
        case rel => exact ⟨k + 1, by omega, by go_num, hown', hB⟩
        case measure => simp [intOf]; omega
      | true =>
        simp only [if_true] at i5
        rw [← i5] at i4
        clear i5
        have i8 := Nat.mod_lt (a + k) (show 0 < l.length by omega)
        generalize (a + k) % l.length = j2 at *
        generalize l.length = n at *
        go_wp2_with (first | (at_builtin; refine wpList_append_own _ rfl _ _ 37 rfl w.heap.size 59 i0 (.agg #[.int .i64 0, .int .i64 0]) 2 16 Tryz.underlying37 hi hz0 hz1 hz2 rfl (by decide) _ _ _ rfl (hown.alloc _) ⟨wr.heap.size, 0, none⟩ 1 1 [.int .i64 p.1, .int .i64 p.2] rfl rfl ?c1 ?c2 ?c3 ?c4 ?c5 ?_))
        case c1 => exact new_cells _ _ _ _
        case c2 => intro u hu; simp at hu; rcases hu with rfl | rfl <;> rfl
        case c3 => unfold maxLen; omega
        case c4 => omega
        case c5 => simp; omega
        intro v' w1 hown' hgrow _
        have hB := row_below (hnx.alloc hnx.size _) hgrow (fun g hg => (hown.lt g hg).1) (by simp; omega)
        rw [← cellsP_snoc _ k p hp] at hown'
        clear hgrow hown hnx
        go_wp2
        go_roundw
        case rel => exact ⟨k + 1, by omega, by go_num, hown', hB⟩
        case measure => simp [intOf]; omega
    · have hkk : k = l.length := by omega
      subst hkk
      rw [← hbl, List.take_length] at hown
      clear hk
      go_wp2
      go_ret
      exact ⟨_, rfl, SlR.own (by rw [hbl] at hown ⊢; exact hown) (Nat.le_refl _), hnx⟩
end Go.Proofs.YtbfanhdofopnnaaGreat
set_option linter.unusedSimpArgs false
set_option linter.unusedVariables false
/-! laws.varyTo, spec.VaryBegun and laws.varyWith. -/
namespace JR
open Go Go.RowKit
/-- block b, which was there, holds what F makes of slot t -/
def Ent.turnF (b : Nat) (cs0 : Array Value) (t : Nat) (F : Value → Array Value) (T : TypeId) : Ent where
  E := fun _ _ _ a w => w.heap[b]? = some (.cells (F (a.eval (.tmp t))) T (0, 0))
  sl := [t]
  old := [b]
  still := false
  news := false
  pre := fun w => w.heap[b]? = some (.cells cs0 T (0, 0))
  hsl := fun _ _ _ _ _ _ h h1 => by
    have := h t (by simp)
    simp only [← this]
    exact h1
  hext := fun _ _ _ _ _ _ _ e h => (e.block b (lt_of_some h)).trans h
  hstill := fun h => Bool.noConfusion h
  hnews := fun h => Bool.noConfusion h
  hrow := fun _ _ _ _ _ _ _ _ _ ho h => (setRow_other (fun he => ho (by simp [he]))).trans h
  hpext := fun _ _ e h => (e.block b (lt_of_some h)).trans h
  hprow := fun _ _ _ ho h => (setRow_other (fun he => ho (by simp [he]))).trans h
theorem row_fnS {b i k t : Nat} {F : Value → Value} : k ≠ i → (Ent.fnS t F).still = false → ∀ v l h a w cells, (b < l ∨ h ≤ b) → (Ent.fnS t F).E v l h a w → (Ent.fnS t F).E v l h a (w.setRow b cells) := fun _ _ _ _ _ _ _ _ _ h => h
section
variable {P : Program} {ops : Array Oper} {Q : Exit → Act → World → Prop} {G : World → Prop} {B0 : Nat} {plan : List Ent} {a0 : Act} {i : Nat} {o : Oper} {ns : List Need}
theorem OpOk.turnF {b t : Nat} {F : Value → Array Value} {T : TypeId} {cs0 : Array Value} (hg : o.guard = none) (hb : b < B0)
    (hrows : rowsOk b i 0 plan) (hold : ∀ j e, plan[j]? = some e → j ≠ i → b ∉ e.old)
    (hf : ∀ a w, G w → facts plan a0 a w ns → w.heap[b]? = some (.cells cs0 T (0, 0)) ∧ (execOp a.eval o).run P w = .ok .skip (w.setRow b (F (a.eval (.tmp t)))))
    (hGs : ∀ w cs, G w → G (w.setRow b cs)) :
    OpOk P ops Q G B0 plan a0 i o (.turnF b cs0 t F T) ns := by
  intro a w hG hff
  refine ⟨fun _ => ?_, fun h => by simp [Region.wanted, hg] at h⟩
  obtain ⟨h3, hr⟩ := hf a w hG hff
  unfold Oper.wp
  rw [hr]
  refine ⟨undef, rfl, setRow_same h3, .inr fun l h _ _ => ⟨by rw [setRow_size]; exact Nat.le_refl _, hGs _ _ hG, fun j e he hji hp => e.hprow _ _ _ (hold j e he hji) hp, fun j e he hji hst v lj hj hlj hhj _ hE => ?_⟩⟩
  exact rowsOk_get plan 0 hrows j e he (by simpa using hji) hst _ _ _ _ _ _ (.inl (by omega)) hE
end
end JR
namespace Go.Proofs.YtbfanhdofopnnaaGreat
open Go.RowKit PF JR
set_option maxHeartbeats 1000000 in
theorem varyTo_n (l : List (Int × Int)) (hl : l.length ≤ 2147483647) (v : Value) (w : World) (hv : SlP w v l) :
    Calls Tryz.prog 21 #[v] w fun e w' => ∃ v', e = .returned v' ∧ SlR w.heap.size w'.heap.size w' v' l ∧ Below w.heap.size w w' := by
  obtain ⟨A, c, rfl, hk⟩ := hv
  obtain ⟨i0, hi, hz0, hz1, hz2⟩ := info_parts infoP
  go_enter Tryz.func21, Tryz.ntmps21
  go_wp2
  go_loopw [3, 8] (fun v i wr => ∃ k : Nat, k ≤ l.length ∧ i = .int .i64 k ∧ wr.ownsRow w.heap.size 42 2 v k (cellsP (l.take k)) ∧ Below w.heap.size w wr) (fun _ i _ => l.length - (intOf i).toNat)
  case atStart => exact ⟨0, Nat.zero_le _, rfl, World.ownsRow_nil _ _ _ _, Below.refl _ _⟩
  case round =>
    obtain ⟨k, hkl, rfl, hown, hnx⟩ := hrel
    rcases Nat.lt_or_ge k l.length with hlt | hge
    · obtain ⟨p, hp⟩ : ∃ p, l[k]? = some p := ⟨l[k], by simp [hlt]⟩
      obtain ⟨b, off, rfl, h1, h2⟩ := hk k p hp
      have g1 := (hnx.cell (World.block_lt_of_cell? w _ h1)).trans h1
      have g2 := (hnx.cell (World.block_lt_of_cell? w _ h2)).trans h2
      clear h1 h2 hk
      go_wp2_with (first | (at_builtin; refine wpList_append_own _ rfl _ _ 24 rfl w.heap.size 42 i0 (.agg #[.int .i64 0, .int .i64 0]) 2 16 Tryz.underlying24 hi hz0 hz1 hz2 rfl (by decide) _ _ _ rfl ((hown.alloc _).alloc _) ⟨wr.heap.size + 1, 0, none⟩ 1 1 [.int .i64 p.1, .int .i64 p.2] rfl rfl ?c1 ?c2 ?c3 ?c4 ?c5 ?_))
      case c1 => exact two_cells _ _ _ _ _
      case c2 => intro u hu; simp at hu; rcases hu with rfl | rfl <;> rfl
      case c3 => unfold maxLen; omega
      case c4 => omega
      case c5 => have := hnx.size; simp; omega
      intro v' w1 hown' hgrow _
      have hB := row_below (((hnx.alloc hnx.size _).alloc (by have := hnx.size; simp; omega) _)) hgrow (fun g hg => (hown.lt g hg).1) (by have := hnx.size; simp; omega)
      rw [← cellsP_snoc l k p hp] at hown'
      clear hgrow hown hnx
      go_wp2
      go_roundw
      case rel => exact ⟨k + 1, by omega, by go_num, hown', hB⟩
      case measure => simp [intOf]; omega
    · have hkk : k = l.length := by omega
      subst hkk
      rw [List.take_length] at hown
      clear hk
      go_wp2
      go_ret
      exact ⟨_, rfl, SlR.own hown (Nat.le_refl _), hnx⟩
set_option maxRecDepth 100000 in
set_option maxHeartbeats 2000000 in
theorem varyWith_c (l : List (Int × Int)) (hl : l.length ≤ 2147483647) (K : Int) (v vl : Value) (A3 : Option Addr) (n3 c3 : Nat) (w : World) (hv : SlP w vl l) :
    Calls Tryz.prog 17 #[.agg #[.int .i64 K, v, .slice A3 n3 c3], vl] w fun e w' => ∃ v', e = .returned (.agg #[.int .i64 K, v', .slice A3 n3 c3]) ∧ SlR w.heap.size w'.heap.size w' v' l ∧ Below w.heap.size w w' := by
  have st0 := ((Blk.nil w).push rfl #[.int .i64 K, v, .slice A3 n3 c3] 27).push (b := w.heap.size + 1) (by simp) #[.int .i64 0, .slice none 0 0, .slice none 0 0] 27
  have s0 := hv.below st0.hb
  obtain ⟨Av, cv, rfl⟩ : ∃ A c, vl = .slice A l.length c := hv.len
  have k1 := st0.known 0 _ rfl
  go_enter Tryz.func17, Tryz.ntmps17
  go_wp2
  refine wp_region_K [w.heap.size + 1] [.val (.pointer (some ⟨w.heap.size, 0, none⟩)), .val (.int .i64 K), .val (.slice Av l.length cv), .slr l, .val (.pointer (some ⟨w.heap.size, 2, none⟩)), .val (.slice A3 n3 c3), .fnS 8 (fun x => .agg #[.int .i64 K, x, .slice A3 n3 c3]),
      .turnF (w.heap.size + 1) #[.int .i64 0, .slice none 0 0, .slice none 0 0] 8 (fun x => #[.int .i64 K, x, .slice A3 n3 c3]) 27]
    [[.ini 2], [.frm 0 5], [.ini 1], [.frm 2 7], [.ini 2], [.frm 4 9], [.frm 3 8, .frm 1 6, .frm 5 10], [.frm 6 11, .til 7, .ini 4, .frm 3 8]]
    mixed (by kernel_rfl) (by kernel_rfl) (allPre_of ⟨trivial, trivial, trivial, trivial, trivial, trivial, trivial, k1, trivial⟩)
    ⟨OpOk.quiet rfl ?_, OpOk.quiet rfl ?_, OpOk.quiet rfl ?_, OpOk.call rfl ?_, OpOk.quiet rfl ?_, OpOk.quiet rfl ?_, OpOk.fnS rfl ?_,
      OpOk.turnF rfl (lt_of_some k1) ⟨row_still rfl, row_still rfl, row_still rfl, row_none rfl (fun h => (nomatch h)), row_still rfl, row_still rfl, row_fnS, row_self rfl, trivial⟩ (oldFree_of ⟨.inr (fun h => (nomatch h)), .inr (fun h => (nomatch h)), .inr (fun h => (nomatch h)), .inr (fun h => (nomatch h)), .inr (fun h => (nomatch h)), .inr (fun h => (nomatch h)), .inr (fun h => (nomatch h)), .inl rfl, trivial⟩) ?_ (fun _ _ h => Keep.setRow h (.inr (by simp))), trivial⟩ ?_
  · intro a u _ hf
    simp [facts, Need.fact, Act.eval] at hf
    go_simp
  · intro a u hG hf
    simp [facts, Need.fact, Ent.val, Act.eval] at hf
    have stu := st0.known 1 _ rfl
    have y0 := cellAt ((hG.block _ (lt_of_some stu) (by simp)).trans stu) 0
    simp only [List.getElem?_toArray, List.getElem?_cons_zero, List.getElem?_cons_succ] at y0
    go_simp
  · intro a u _ hf
    simp [facts, Need.fact, Act.eval] at hf
    go_simp
  · intro a u hG hf
    simp [facts, Need.fact, Ent.val, Act.eval] at hf
    have hk : SlP u (.slice Av l.length cv) l := by
      obtain ⟨A, c, h1, h2⟩ := hv
      refine ⟨A, c, h1, fun k p hp => ?_⟩
      obtain ⟨b, off, g1, g2, g3⟩ := h2 k p hp
      have hb := World.block_lt_of_cell? w _ g2
      simp only at hb
      have hx : ∀ o, u.cell? ⟨b, o, none⟩ = w.cell? ⟨b, o, none⟩ := fun o => (hG.cell (p := ⟨b, o, none⟩) (by simp; omega) (by simp; omega)).trans (st0.hb.cell hb)
      exact ⟨b, off, g1, (hx _).trans g2, (hx _).trans g3⟩
    refine ⟨_, _, by go_simp, (varyTo_n l hl _ u hk).mono ?_⟩
    rintro e w' ⟨v', rfl, hs, hb⟩
    exact ⟨_, rfl, hb, hs⟩
  · intro a u _ hf
    simp [facts, Need.fact, Act.eval] at hf
    go_simp
  · intro a u hG hf
    simp [facts, Need.fact, Ent.val, Act.eval] at hf
    have stu := st0.known 1 _ rfl
    have y0 := cellAt ((hG.block _ (lt_of_some stu) (by simp)).trans stu) 2
    simp only [List.getElem?_toArray, List.getElem?_cons_zero, List.getElem?_cons_succ] at y0
    go_simp
  · intro a u _ hf
    obtain ⟨⟨_, _, f2⟩, ⟨_, _, f1⟩, ⟨_, _, f5⟩, -⟩ := hf
    obtain ⟨A9, c9, f3⟩ := SlR.len f2
    have f1' : a.eval (.tmp 6) = .int .i64 K := f1
    have f5' : a.eval (.tmp 10) = .slice A3 n3 c3 := f5
    simp [Act.eval] at f1' f3 f5'
    go_simp
  · intro a u hG hf
    obtain ⟨⟨_, _, f2⟩, f3, f4, ⟨_, _, f5⟩, -⟩ := hf
    obtain ⟨A9, c9, f6⟩ := SlR.len f5
    have f3 : u.heap[w.heap.size + 1]? = some (.cells #[.int .i64 0, .slice none 0 0, .slice none 0 0] 27 (0, 0)) := f3
    have f4 : a.eval (.tmp 4) = .pointer (some ⟨w.heap.size + 1, 0, none⟩) := f4
    exact ⟨f3, run_store_row _ _ _ rfl _ _ f4 f2 _ _ f3 (by kernel_rfl) rfl (by rw [f6]; simp [Value.oneCell'])⟩
  intro u lw hw wc hKp hE hI hD
  simp [allE, Ent.turnF, Ent.fnS, Ent.slr, Ent.val] at hE
  obtain ⟨u0, u1, u2, u3, u4, u5, u6, u7⟩ := hE
  simp only [allPut, Act.put, u0, u1, u2, u4, u5]
  simp [allPut, Act.put, Act.eval] at u6 u7
  replace u3 : SlR (lw 3) (hw 3) wc (u 3) l := u3
  have i3 := hI 3 (by show 3 < 8; omega)
  obtain ⟨A9, c9, e9⟩ := u3.len
  rw [e9] at u6 u7 u3
  rw [u6, e9]
  have c0 := cellAt u7 0
  have c1 := cellAt u7 1
  have c2 := cellAt u7 2
  simp only [List.getElem?_toArray, List.getElem?_cons_zero, List.getElem?_cons_succ] at c0 c1 c2
  have hs0 := st0.hb.size
  have hB : Below w.heap.size w wc := st0.hb.trans ⟨hKp.os, hKp.tape, hKp.output, hKp.size, fun k hk => hKp.block k (Nat.lt_of_lt_of_le hk hs0) (by simp; omega)⟩
  have hr := u3.wide (l' := w.heap.size) (h' := wc.heap.size) (by have := i3.2; simp at this; omega) i3.1
  clear u6 u7 u3 i3 hKp hI hD e9 s0 hv st0 k1
  try simp only [List.setIfInBounds_toArray, List.set_cons_zero, List.set_cons_succ]
  go_wp2
  exact bodyPost_ret (v := .agg #[.int .i64 K, .slice A9 l.length c9, .slice A3 n3 c3]) (by simp [results, Tryz.results17, go_sem, c0, c1, c2]) rfl ⟨_, rfl, hr, hB⟩
end Go.Proofs.YtbfanhdofopnnaaGreat
