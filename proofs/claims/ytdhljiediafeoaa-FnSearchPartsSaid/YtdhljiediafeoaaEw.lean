import Derived.Test.YtdhljiediafeoaaEv
set_option linter.unusedSimpArgs false
set_option linter.unusedVariables false
/-! Search: what a closure makes of the segments that a rectangle meets, in their order. -/
namespace PF
open Go Go.RowKit JR
/-- the segment k, as a value -/
def sgv (l : List (Int × Int)) (k : Nat) : Value := .agg #[fl (fb (at' l k).1), fl (fb (at' l k).2), fl (fb (nxp l k).1), fl (fb (nxp l k).2)]
end PF
namespace Go.Proofs.Ytdhljiediafeoaa
open Go.RowKit PF JR
/-- rectangles and segments stay -/
def KeepT (u u' : World) : Prop := u.heap.size ≤ u'.heap.size ∧ ∀ (k : Nat) (cs : Array Value) (T : TypeId), T = 53 ∨ T = 56 → u.heap[k]? = some (.cells cs T (0, 0)) → u'.heap[k]? = some (.cells cs T (0, 0))
/-- what a search needs: hit k: the rectangle meets segment k; Inv k: what holds before segment k, Stop: what holds once the closure has said no -/
structure SrchOk (F : FuncId) (caps : Array Value) (K : Nat) (closed : Bool) (l : List (Int × Int)) (T : TypeId) (lo hi b : Nat) (ix v' q : Value) (hit : Nat → Bool) (Inv : Nat → World → Prop) (Stop : World → Prop) : Prop where
  len : l.length ≤ 12
  two : 2 ≤ l.length
  ent : ∀ args u, (callFunc F args).run Try.prog u = .ok (.enter F args) u
  bnd : ∀ p ∈ l, Bnd p
  blk : lo ≤ b ∧ b < hi
  ser : ∀ k u, Inv k u → IxV K l (nSeg closed l) lo hi u ix ∧ u.heap[b]? = some (.cells (serC K closed l ix v') T (0, 0)) ∧ SlQ lo hi u v' l
  ext : ∀ k u u', Inv k u → Ext u u' → Inv k u'
  exs : ∀ u u', Stop u → Ext u u' → Stop u'
  meet : ∀ k u, k < nSeg closed l → Calls Try.prog 19 #[.agg #[fl (fb (sgx l k).1), fl (fb (sgx l k).2.1), fl (fb (sgx l k).2.2.1), fl (fb (sgx l k).2.2.2)], q] u fun e u' => e = .returned (.bool (hit k)) ∧ Below u.heap.size u u'
  step : ∀ k u, k < nSeg closed l → hit k = true → Inv k u → Calls Try.prog F (#[sgv l k, .int .i64 k] ++ caps) u fun e u' => ∃ c : Bool, e = .returned (.bool c) ∧ (c = true → Inv (k + 1) u') ∧ (c = false → Stop u') ∧ KeepT u u'
  skip : ∀ k u, k < nSeg closed l → hit k = false → Inv k u → Inv (k + 1) u
theorem SrchOk.skp {F : FuncId} {caps : Array Value} {K : Nat} {closed : Bool} {l : List (Int × Int)} {T : TypeId} {lo hi b : Nat} {ix v' q : Value} {hit : Nat → Bool} {Inv : Nat → World → Prop} {Stop : World → Prop} (H : SrchOk F caps K closed l T lo hi b ix v' q hit Inv Stop) {k : Nat} {u : World} (h : Inv k u) : SkP K closed l T lo hi b u := by
  obtain ⟨h1, h2, h3⟩ := H.ser k u h
  exact ⟨ix, v', h1, H.blk.1, H.blk.2, h2, h3⟩
theorem sgr_x (l : List (Int × Int)) (h : ∀ p ∈ l, Bnd p) (k : Nat) (w : World) : Calls Try.prog 43 #[.agg #[fl (fb (at' l k).1), fl (fb (at' l k).2), fl (fb (nxp l k).1), fl (fb (nxp l k).2)]] w fun e w' => e = .returned (.agg #[fl (fb (sgx l k).1), fl (fb (sgx l k).2.1), fl (fb (sgx l k).2.2.1), fl (fb (sgx l k).2.2.2)]) ∧ Below w.heap.size w w' := by
  have h1 := at_bnd h k
  have h2 : Bnd (nxp l k) := at_bnd h _
  have := sgr_c (fb_rep (at' l k).1 (by have := h1.1; omega)) (fb_rep (at' l k).2 (by have := h1.2; omega)) (fb_rep (nxp l k).1 (by have := h2.1; omega)) (fb_rep (nxp l k).2 (by have := h2.2; omega)) w
  rw [min_fb, min_fb, max_fb, max_fb] at this
  exact this
theorem sgat_x {K : Nat} {closed : Bool} {l : List (Int × Int)} {T : TypeId} {lo hi b : Nat} {w : World} (H : SkP K closed l T lo hi b w) (hl : l.length ≤ 1000) (k : Nat) (hk : k < nSeg closed l) :
    Calls Try.prog 42 #[.pointer (some ⟨b, 0, none⟩), .int .i64 k] w fun e w' => e = .returned (sgv l k) ∧ Below w.heap.size w w' := by
  obtain ⟨ix, v', -, -, -, h3, h4⟩ := H
  obtain ⟨g1, g2⟩ := seg_pts hk
  exact sgat_c b k lo hi closed l _ _ _ w ⟨h3, rfl, rfl, v', rfl, h4⟩ hl (at_get g1) (at_get g2)
theorem nseg_x {K : Nat} {closed : Bool} {l : List (Int × Int)} {T : TypeId} {lo hi b : Nat} {w : World} (H : SkP K closed l T lo hi b w) (hl : l.length ≤ 1000) (h2 : 2 ≤ l.length) (hb : ∀ p ∈ l, Bnd p) :
    Calls Try.prog 41 #[.pointer (some ⟨b, 0, none⟩)] w fun e w' => e = .returned (.int .i64 (nSeg closed l)) ∧ Below w.heap.size w w' := by
  obtain ⟨ix, v', -, -, -, h3, h4⟩ := H
  exact nseg_c b lo hi closed l _ w ⟨h3, rfl, rfl, v', rfl, h4⟩ hl h2 hb
theorem noBytes (w : World) : (Instr.typeAssert .nilIface 20 105 true).run Try.prog w = .ok (.tuple #[.slice none 0 0, .bool false]) w := by kernel_rfl
theorem isBytes (a : Option Addr) (n c : Nat) (w : World) : (Instr.typeAssert (.iface 105 (.slice a n c)) 20 105 true).run Try.prog w = .ok (.tuple #[.slice a n c, .bool true]) w := by kernel_rfl

set_option maxRecDepth 100000 in
set_option maxHeartbeats 4000000 in
theorem search0_c (F : FuncId) (caps : Array Value) (closed : Bool) (l : List (Int × Int)) (T : TypeId) (lo hi b q0 q1 q2 q3 : Nat) (ix v' : Value) (hit : Nat → Bool) (Inv : Nat → World → Prop) (Stop : World → Prop)
    (H : SrchOk F caps 0 closed l T lo hi b ix v' (.agg #[fl q0, fl q1, fl q2, fl q3]) hit Inv Stop) (w : World) (h0 : Inv 0 w) :
    Calls Try.prog 99 #[.pointer (some ⟨b, 0, none⟩), .agg #[fl q0, fl q1, fl q2, fl q3], .func (.func F) #[] caps] w fun e w' => e = .returned (.tuple #[]) ∧ (Inv (nSeg closed l) w' ∨ Stop w') := by
  have hnb := noBytes
  obtain ⟨hix, hrow, -⟩ := H.ser 0 w h0
  obtain ⟨-, rfl⟩ : True ∧ ix = .nilIface := by
    rcases hix with ⟨-, h⟩ | ⟨h, -⟩
    · exact ⟨trivial, h⟩
    · exact absurd rfl h
  have hb1 : Below w.heap.size w (w.alloc (.cells #[fl q0, fl q1, fl q2, fl q3] 53)) := (Below.refl _ w).alloc (Nat.le_refl _) _
  have x4 := cellAt ((hb1.block b (lt_of_some hrow)).trans hrow) 4
  have I1 := H.ext 0 _ _ h0 hb1
  have R1 := heap_alloc_new w (.cells #[fl q0, fl q1, fl q2, fl q3] 53)
  simp only [serC, List.getElem?_toArray, List.getElem?_cons_zero, List.getElem?_cons_succ] at x4
  have hns := nseg_x (H.skp I1) (by have := H.len; omega) H.two H.bnd
  clear hrow hix h0
  generalize hw1 : w.alloc (.cells #[fl q0, fl q1, fl q2, fl q3] 53) = w1 at *
  go_enter Try.func99, Try.ntmps99
  go_wp2_with (go_at_call 41; refine JR.StopN.out ?_)
  refine ⟨?_⟩
  refine hns.mono ?_
  rintro e w2 ⟨rfl, hb2⟩
  have I2 := H.ext 0 _ _ I1 hb2
  have R2 := (hb2.block _ (lt_of_some R1)).trans R1
  have B2 := hb1.trans (hb2.mono hb1.size)
  clear hns hb2 I1 R1 x4 hnb hb1 hw1
  have hN12 := Nat.le_trans (nSeg_le closed l) H.len
  generalize hN : nSeg closed l = N at *
  generalize hrb : w.heap.size = rb at *
  go_wp2
  go_loopw [8] (fun i wr => ∃ k : Nat, k ≤ N ∧ i = .int .i64 k ∧ Inv k wr ∧ wr.heap[rb]? = some (.cells #[fl q0, fl q1, fl q2, fl q3] 53 (0, 0))) (fun i _ => N - (intOf i).toNat)
  case atStart => exact ⟨0, Nat.zero_le _, rfl, I2, R2⟩
  case round =>
    clear I2 R2 B2
    obtain ⟨k, hk, rfl, I3, R3⟩ := hrel
    rcases Nat.lt_or_ge k N with hlt | hge
    · have hsg := sgat_x (H.skp I3) (by have := H.len; omega) k (by omega)
      have hlt' : (k : Int) < (N : Int) := by omega
      go_wp2_with (go_at_call 42; refine JR.StopN.out ?_)
      refine ⟨?_⟩
      refine hsg.mono ?_
      rintro e w4 ⟨rfl, hb4⟩
      have I4 := H.ext k _ _ I3 hb4
      have R4 := (hb4.block _ (lt_of_some R3)).trans R3
      clear hsg I3 R3 hb4
      unfold sgv
      go_wp2_with (with_reducible refine stop_region ?_)
      refine ⟨?_⟩
      have hal := (Below.refl w4.heap.size w4).alloc (Nat.le_refl _) (.cells #[fl (fb (at' l k).1), fl (fb (at' l k).2), fl (fb (nxp l k).1), fl (fb (nxp l k).2)] 56)
      have V4 := heap_alloc_new w4 (.cells #[fl (fb (at' l k).1), fl (fb (at' l k).2), fl (fb (nxp l k).1), fl (fb (nxp l k).2)] 56)
      have I5 := H.ext k _ _ I4 hal
      have R5 := (hal.block _ (lt_of_some R4)).trans R4
      clear I4 R4 hal
      generalize w4.alloc (.cells #[fl (fb (at' l k).1), fl (fb (at' l k).2), fl (fb (nxp l k).1), fl (fb (nxp l k).2)] 56) = w5 at *
      generalize w4.heap.size = s9 at *
      have W0 := cellAt V4 0
      have W1 := cellAt V4 1
      have W2 := cellAt V4 2
      have W3 := cellAt V4 3
      have Y0 := cellAt R5 0
      have Y1 := cellAt R5 1
      have Y2 := cellAt R5 2
      have Y3 := cellAt R5 3
      simp only [List.getElem?_toArray, List.getElem?_cons_zero, List.getElem?_cons_succ] at W0 W1 W2 W3 Y0 Y1 Y2 Y3
      refine wp_region_K [] [.val (.agg #[fl (fb (at' l k).1), fl (fb (at' l k).2), fl (fb (nxp l k).1), fl (fb (nxp l k).2)]),
          .val (.agg #[fl (fb (sgx l k).1), fl (fb (sgx l k).2.1), fl (fb (sgx l k).2.2.1), fl (fb (sgx l k).2.2.2)]),
          .val (.agg #[fl q0, fl q1, fl q2, fl q3]),
          .val (.bool (hit k))]
        [[.ini 9], [.frm 0 27], [.ini 4], [.frm 1 28, .frm 2 29]]
        mixed (by kernel_rfl) (by kernel_rfl) (allPre_of ⟨trivial, trivial, trivial, trivial, trivial⟩)
        ⟨OpOk.quiet rfl ?_,
          OpOk.call rfl ?_,
          OpOk.quiet rfl ?_,
          OpOk.call rfl ?_, trivial⟩ ?_
      · intro a u hG hf
        simp [facts, Need.fact, Ent.val, Act.eval] at hf
        have a0 := (hG.cell (p := ⟨s9, 0, none⟩) (lt_of_some V4) (by simp)).trans W0
        have a1 := (hG.cell (p := ⟨s9, 1, none⟩) (lt_of_some V4) (by simp)).trans W1
        have a2 := (hG.cell (p := ⟨s9, 2, none⟩) (lt_of_some V4) (by simp)).trans W2
        have a3 := (hG.cell (p := ⟨s9, 3, none⟩) (lt_of_some V4) (by simp)).trans W3
        have r0 := (hG.cell (p := ⟨rb, 0, none⟩) (lt_of_some R5) (by simp)).trans Y0
        have r1 := (hG.cell (p := ⟨rb, 1, none⟩) (lt_of_some R5) (by simp)).trans Y1
        have r2 := (hG.cell (p := ⟨rb, 2, none⟩) (lt_of_some R5) (by simp)).trans Y2
        have r3 := (hG.cell (p := ⟨rb, 3, none⟩) (lt_of_some R5) (by simp)).trans Y3
        go_simp
      · intro a u _ hf
        simp [facts, Need.fact, Ent.val, Act.eval] at hf
        refine ⟨_, _, by go_simp, (sgr_x l H.bnd k _).mono ?_⟩
        rintro e w' ⟨rfl, hb⟩
        exact ⟨_, rfl, hb, rfl⟩
      · intro a u hG hf
        simp [facts, Need.fact, Ent.val, Act.eval] at hf
        have a0 := (hG.cell (p := ⟨s9, 0, none⟩) (lt_of_some V4) (by simp)).trans W0
        have a1 := (hG.cell (p := ⟨s9, 1, none⟩) (lt_of_some V4) (by simp)).trans W1
        have a2 := (hG.cell (p := ⟨s9, 2, none⟩) (lt_of_some V4) (by simp)).trans W2
        have a3 := (hG.cell (p := ⟨s9, 3, none⟩) (lt_of_some V4) (by simp)).trans W3
        have r0 := (hG.cell (p := ⟨rb, 0, none⟩) (lt_of_some R5) (by simp)).trans Y0
        have r1 := (hG.cell (p := ⟨rb, 1, none⟩) (lt_of_some R5) (by simp)).trans Y1
        have r2 := (hG.cell (p := ⟨rb, 2, none⟩) (lt_of_some R5) (by simp)).trans Y2
        have r3 := (hG.cell (p := ⟨rb, 3, none⟩) (lt_of_some R5) (by simp)).trans Y3
        go_simp
      · intro a u _ hf
        simp [facts, Need.fact, Ent.val, Act.eval] at hf
        refine ⟨_, _, by go_simp, (H.meet k _ (by omega)).mono ?_⟩
        rintro e w' ⟨rfl, hb⟩
        exact ⟨_, rfl, hb, rfl⟩
      intro u lw hw wc hKp hE hI hD
      simp only [allE, Ent.val] at hE
      obtain ⟨u0, u1, u2, u3, -⟩ := hE
      simp only [Nat.reduceAdd] at u0 u1 u2 u3
      simp only [allPut, Act.put, Nat.reduceAdd, u0, u1, u2, u3]
      try simp only [List.setIfInBounds_toArray, List.set_cons_zero, List.set_cons_succ]
      clear hI hD u0 u1 u2 u3
      have I6 := H.ext k _ _ I5 hKp.below
      have V6 := (hKp.block _ (lt_of_some V4) (by simp)).trans V4
      have R6 := (hKp.block _ (lt_of_some R5) (by simp)).trans R5
      clear hKp I5 V4 R5 W0 W1 W2 W3 Y0 Y1 Y2 Y3
      have W0 := cellAt V6 0
      have W1 := cellAt V6 1
      have W2 := cellAt V6 2
      have W3 := cellAt V6 3
      simp only [List.getElem?_toArray, List.getElem?_cons_zero, List.getElem?_cons_succ] at W0 W1 W2 W3
      generalize hh : hit k = h at *
      cases h with
      | false =>
        have I7 := H.skip k _ (by omega) hh I6
        clear hh
        go_wp2
        go_roundw
        case rel => exact ⟨k + 1, by omega, by go_num, I7, R6⟩
        case measure => simp [intOf]; omega
      | true =>
        have hst := H.step k _ (by omega) hh I6
        clear hh
        unfold sgv at hst
        go_wp2
        rw [H.ent, Oper.upon_enter]
        refine hst.mono ?_
        rintro e w7 ⟨c, rfl, hi, hs, hk7⟩
        have R7 := hk7.2 _ _ _ (.inl rfl) R6
        clear hst hk7 I6 R6 V6 W0 W1 W2 W3
        cases c with
        | true =>
          have I7 := hi rfl
          clear hi hs
          go_wp2
          go_roundw
          case rel => exact ⟨k + 1, by omega, by go_num, I7, R7⟩
          case measure => simp [intOf]; omega
        | false =>
          have S7 := hs rfl
          clear hi hs
          go_wp2
          exact bodyPost_ret (v := .tuple #[]) (by simp [results, Try.results99, go_sem]) rfl ⟨rfl, .inr S7⟩
    · have hkk : k = N := by omega
      subst hkk
      go_wp2
      go_end0
      exact ⟨rfl, .inl (by rw [hN]; exact I3)⟩
end Go.Proofs.Ytdhljiediafeoaa
