import Derived.Test.YtkldjceopjfjhaaSr
import Derived.Test.YtkldjceopjfjhaaPl
import Derived.Test.YtkldjceopjfjhaaJe
set_option linter.unusedSimpArgs false
set_option linter.unusedVariables false
/-! buildIndex, of few segments. -/
namespace PF
theorem seg_pts {closed : Bool} {l : List (Int × Int)} {k : Nat} (hk : k < Go.Proofs.Ytkldjceopjfjhaa.nSeg closed l) : k < l.length ∧ (if k = l.length - 1 then 0 else k + 1) < l.length := by
  unfold Go.Proofs.Ytkldjceopjfjhaa.nSeg at hk
  split at hk
  · split at hk
    · omega
    · split at hk <;> split <;> omega
  · split <;> omega
end PF
namespace Go.Proofs.Ytkldjceopjfjhaa
open Go.RowKit PF JR
theorem nSeg_le (closed : Bool) (l : List (Int × Int)) : nSeg closed l ≤ l.length := by
  unfold nSeg; repeat' split
  all_goals omega
theorem neNil (w : World) : (binOp .neq 20 .nilIface .nilIface).run Try.prog w = .ok (.bool false) w := by kernel_rfl
theorem SerB.below {w w' : World} {sb lo hi B : Nat} {closed : Bool} {l : List (Int × Int)} {ss : Array Value} (h : SerB w sb closed l lo hi ss) (hb : Below B w w') (h1 : sb < B) (h2 : hi ≤ B) : SerB w' sb closed l lo hi ss := by
  obtain ⟨h0, hs, g1, v, g2, g3⟩ := h
  exact ⟨(hb.block sb h1).trans h0, hs, g1, v, g2, g3.keep' fun b _ hb2 _ => hb.block b (by omega)⟩
theorem byt_five {w : World} {g base : Nat} {a b c d e : Nat} (h : w.heap[g]? = some (.cells #[.int .u8 a, .int .u8 b, .int .u8 c, .int .u8 d, .int .u8 e] 5 (0, 0))) (hb : base ≤ g) : Byt w base (.slice (some ⟨g, 0, none⟩) 5 5) 5 := by
  refine ⟨[.int .u8 a, .int .u8 b, .int .u8 c, .int .u8 d, .int .u8 e], ⟨rfl, .inr ⟨g, 5, _, rfl, hb, h, by omega, by unfold maxLen; omega, rfl, rfl⟩⟩, ?_⟩
  intro x hx
  simp at hx
  rcases hx with rfl | rfl | rfl | rfl | rfl <;> rfl
/-- what the field of the index may hold -/
def IxV (x : Value) : Prop := x = .nilIface ∨ ∃ y, x = .iface 111 y
/-- what buildIndex leaves: the index, of the series' cells, and nothing else is another one -/
def BiP (sb : Nat) (ss : Array Value) (w : World) (e : Ending) (w' : World) : Prop :=
  e = .returned (.tuple #[]) ∧ ∃ x, IxV x ∧ Rw w w' sb (ss.setIfInBounds 4 x) 93
theorem bip_of {sb : Nat} {ss : Array Value} {w w3 w4 : World} {y : Value} (hsb : sb < w.heap.size) (h3 : Below w.heap.size w w3) (h4 : Below w.heap.size w3 w4) (h5 : w4.heap[sb]? = some (.cells ss 93 (0, 0))) : BiP sb ss w (.returned (.tuple #[])) (w4.setCell ⟨sb, 4, none⟩ (.iface 111 y)) := by
  have h := h3.trans h4
  refine ⟨rfl, _, .inr ⟨y, rfl⟩, ?_⟩
  have hr := (Rw.refl h5).set 4 (.iface 111 y)
  exact ⟨hr.row, ⟨hr.kp.os.trans h.os, hr.kp.tape.trans h.tape, hr.kp.output.trans h.output, Nat.le_trans h.size hr.kp.size, fun k hk hx => (hr.kp.block k (Nat.lt_of_lt_of_le hk h.size) hx).trans (h.block k hk)⟩⟩

set_option maxRecDepth 100000 in
set_option maxHeartbeats 4000000 in
theorem bIndex1_c (sb lo hi : Nat) (closed : Bool) (l : List (Int × Int)) (ss : Array Value) (w : World) (hS : SerB w sb closed l lo hi ss) (hhi : hi ≤ w.heap.size)
    (hK : ss[3]? = some (.int .u8 1)) (h4 : ss[4]? = some .nilIface) (hl : l.length ≤ 12) (h2l : 2 ≤ l.length) (hbd : ∀ p ∈ l, p.1.natAbs ≤ 1000000 ∧ p.2.natAbs ≤ 1000000) :
    Calls Try.prog 47 #[.pointer (some ⟨sb, 0, none⟩)] w (BiP sb ss w) := by
  have hnn := neNil
  have hsb := lt_of_some hS.1
  have x3 := (cellAt hS.1 3).trans hK
  have x4 := (cellAt hS.1 4).trans h4
  have hss : 5 ≤ ss.size := by have := hS.2.1; omega
  have hn := nSeg_le closed l
  have ht0 := heap_alloc_new w (.cells #[.int .i64 0, .nilIface, fl 0, fl 0, fl 0, fl 0, .int .i64 0, .slice none 0 0] 107)
  have hB0 : Below w.heap.size w (w.alloc (.cells #[.int .i64 0, .nilIface, fl 0, fl 0, fl 0, fl 0, .int .i64 0, .slice none 0 0] 107)) := (Below.refl _ _).alloc (Nat.le_refl _) _
  have hseg := nseg_c sb lo hi closed l ss _ (hS.below hB0 hsb hhi) (by omega) h2l hbd
  go_enter Try.func47, Try.ntmps47
  go_wp2_with (go_at_call 48; refine JR.StopN.out ?_)
  refine ⟨?_⟩
  refine hseg.mono ?_
  rintro e w1 ⟨rfl, hb⟩
  have hT1 : TreeS w1 w.heap.size w.heap.size 0 := .inl ⟨rfl, (hb.block _ (lt_of_some ht0)).trans ht0⟩
  have hB1 := hB0.trans (hb.mono hB0.size)
  clear hb ht0 hB0 hseg x3 x4 hnn
  generalize hN : nSeg closed l = N at *
  go_wp2
  go_loopw [4] (fun i wr => ∃ k : Nat, k ≤ N ∧ i = .int .i64 k ∧ TreeS wr w.heap.size w.heap.size k ∧ Below w.heap.size w wr) (fun i _ => N - (intOf i).toNat)
  case atStart => exact ⟨0, Nat.zero_le _, rfl, hT1, hB1⟩
  case round =>
    clear hT1 hB1
    obtain ⟨k, hkl, rfl, hT, hB⟩ := hrel
    have hs := hB.size
    have hSr := hS.below hB hsb hhi
    rcases Nat.lt_or_ge k N with hlt | hge
    · obtain ⟨g1, g2⟩ := seg_pts (closed := closed) (l := l) (k := k) (by omega)
      have a1 := at_get g1
      have a2 := at_get g2
      have m1 := hbd _ (List.mem_of_getElem? a1)
      have m2 := hbd _ (List.mem_of_getElem? a2)
      have hsg := sgat_c sb k lo hi closed l _ _ ss wr hSr (by omega) a1 a2
      generalize at' l k = pa at *
      generalize at' l (if k = l.length - 1 then 0 else k + 1) = pb at *
      have hlt' : (k : Int) < (N : Int) := by omega
      clear a1 a2 hbd g1 g2
      go_wp2_with (go_at_call 49; refine JR.StopN.out ?_)
      refine ⟨?_⟩
      refine hsg.mono ?_
      rintro e w2 ⟨rfl, hb2⟩
      have hT2 := hT.below hb2
      have hB2 := hB.trans (hb2.mono hs)
      clear hsg hT hb2 hSr hB hs
      go_wp2_with (go_at_call 50; refine JR.StopN.out ?_)
      refine ⟨?_⟩
      refine (sgr_c (fb_rep pa.1 (by omega)) (fb_rep pa.2 (by omega)) (fb_rep pb.1 (by omega)) (fb_rep pb.2 (by omega)) _).mono ?_
      rintro e w3 ⟨rfl, hb3⟩
      have hT3 := hT2.below hb3
      have hB3 := hB2.trans (hb3.mono hB2.size)
      have hs3 := hB3.size
      clear hT2 hb3 hB2 m1 m2
      generalize (if pb.1 < pa.1 then fb pb.1 else fb pa.1) = q0
      generalize (if pb.2 < pa.2 then fb pb.2 else fb pa.2) = q1
      generalize (if pb.1 < pa.1 then fb pa.1 else fb pb.1) = q2
      generalize (if pb.2 < pa.2 then fb pa.2 else fb pb.2) = q3
      go_wp2_with (go_at_call 51; refine JR.StopN.out ?_)
      refine ⟨?_⟩
      have st := (((Blk.nil w3).push rfl #[fl q0, fl q1, fl q2, fl q3] 58).push (b := w3.heap.size + 1) (by simp) #[fl q0, fl q1] 46).push (b := w3.heap.size + 1 + 1) (by simp) #[fl q2, fl q3] 46
      have c0 := st.cell 1 rfl 0
      have c1 := st.cell 1 rfl 1
      have c2 := st.cell 0 rfl 0
      have c3 := st.cell 0 rfl 1
      have hbx := st.hb
      have hT4 := hT3.below hbx
      have hB4 := hB3.trans (hbx.mono hs3)
      clear st hT3 hB3 hbx
      refine (tInsert_c w.heap.size k w.heap.size _ 0 _ _ 0 _ q0 q1 q2 q3 _ hT4 (by omega) c0 c1 c2 c3 (Nat.le_refl _) hB4.size).mono ?_
      rintro e w5 ⟨rfl, hT5, hB5⟩
      have hB6 := hB4.trans hB5
      clear hT4 hB4 hB5 c0 c1 c2 c3
      go_wp2
      go_roundw
      case rel => exact ⟨k + 1, by omega, by go_num, hT5, hB6⟩
      case measure => simp [intOf]; omega
    · have hkk : k = N := by omega
      subst hkk
      have hnl : ¬ (k : Int) < (k : Int) := by omega
      have st := (Blk.nil wr).push rfl #[.int .u8 1, .int .u8 0, .int .u8 0, .int .u8 0, .int .u8 0] 5
      have hb5 := byt_five (a := 1) (b := 0) (c := 0) (d := 0) (e := 0) (st.known 0 _ rfl) (Nat.le_refl wr.heap.size)
      have hcm := tcompress_c w.heap.size w.heap.size k 5 _ wr _ hT (by omega) st.hb hb5 (by omega)
      clear st hb5 hbd
      go_wp2_with (go_at_call 53; refine JR.StopN.out ?_)
      refine ⟨?_⟩
      refine hcm.mono ?_
      rintro e w2 ⟨v2, m2, rfl, hv2, hm2, hm2', hb2⟩
      have hB2 := (hB.trans ((((Below.refl wr.heap.size wr).alloc (Nat.le_refl _) _).trans hb2).mono hs))
      have hS2 := hS.below hB2 hsb hhi
      have hsc := setComp_c sb m2 wr.heap.size v2 ss w2 hS2.1 hss hv2 (by omega) (by omega) (by have := hb2.size; simp at this; omega) (by omega)
      clear hcm hv2 hS2 hSr hb2
      go_wp2_with (go_at_call 52; refine JR.StopN.out ?_)
      refine ⟨?_⟩
      refine hsc.mono ?_
      rintro e w3 ⟨rfl, w4, x, hb4, hr4, rfl⟩
      clear hsc
      go_wp2
      go_end0
      exact bip_of hsb hB2 (hb4.mono hs) hr4

set_option maxRecDepth 100000 in
set_option maxHeartbeats 4000000 in
theorem bIndex0_c (sb lo hi : Nat) (closed : Bool) (l : List (Int × Int)) (ss : Array Value) (w : World) (hS : SerB w sb closed l lo hi ss)
    (hK : ss[3]? = some (.int .u8 0)) (h4 : ss[4]? = some .nilIface) :
    Calls Try.prog 47 #[.pointer (some ⟨sb, 0, none⟩)] w (BiP sb ss w) := by
  have hnn := neNil
  have x3 := (cellAt hS.1 3).trans hK
  have x4 := (cellAt hS.1 4).trans h4
  go_enter Try.func47, Try.ntmps47
  go_wp2
  go_end0
  refine ⟨rfl, .nilIface, .inl rfl, ?_, Keep.refl _ _⟩
  have e : ss.setIfInBounds 4 .nilIface = ss := by
    apply Array.ext_getElem?
    intro i
    rw [Array.getElem?_setIfInBounds]
    split
    · rename_i h
      subst h
      rw [if_pos (by have := hS.2.1; omega), h4]
    · rfl
  rw [e]
  exact hS.1

set_option maxRecDepth 100000 in
set_option maxHeartbeats 4000000 in
theorem bIndex2_c (sb lo hi : Nat) (closed : Bool) (l : List (Int × Int)) (ss : Array Value) (w : World) (hS : SerB w sb closed l lo hi ss) (hhi : hi ≤ w.heap.size)
    (hK : ss[3]? = some (.int .u8 2)) (h4 : ss[4]? = some .nilIface) (r0 r1 r2 r3 : Nat) (h5 : ss[5]? = some (fl r0)) (h6 : ss[6]? = some (fl r1)) (h7 : ss[7]? = some (fl r2)) (h8 : ss[8]? = some (fl r3)) (hl : l.length ≤ 12) (h2l : 2 ≤ l.length) (hbd : ∀ p ∈ l, p.1.natAbs ≤ 1000000 ∧ p.2.natAbs ≤ 1000000) :
    Calls Try.prog 47 #[.pointer (some ⟨sb, 0, none⟩)] w (BiP sb ss w) := by
  have hnn := neNil
  have hsb := lt_of_some hS.1
  have x3 := (cellAt hS.1 3).trans hK
  have x4 := (cellAt hS.1 4).trans h4
  have hss : 5 ≤ ss.size := by have := hS.2.1; omega
  have hn := nSeg_le closed l
  have ht0 := heap_alloc_new w (.cells #[.bool false, .slice none 0 0, .pointer none, .pointer none, .pointer none, .pointer none] 117)
  have hB0 : Below w.heap.size w (w.alloc (.cells #[.bool false, .slice none 0 0, .pointer none, .pointer none, .pointer none, .pointer none] 117)) := (Below.refl _ _).alloc (Nat.le_refl _) _
  have hseg := nseg_c sb lo hi closed l ss _ (hS.below hB0 hsb hhi) (by omega) h2l hbd
  go_enter Try.func47, Try.ntmps47
  go_wp2_with (go_at_call 48; refine JR.StopN.out ?_)
  refine ⟨?_⟩
  refine hseg.mono ?_
  rintro e w1 ⟨rfl, hb⟩
  have hT1 : QuV w1 w.heap.size 0 := ⟨_, [], (hb.block _ (lt_of_some ht0)).trans ht0, World.ownsRow_nil _ _ _ _, fun i x hx => by simp at hx⟩
  have hB1 := hB0.trans (hb.mono hB0.size)
  clear hb ht0 hB0 hseg x3 x4 hnn
  generalize hN : nSeg closed l = N at *
  go_wp2
  go_loopw [8] (fun i wr => ∃ k : Nat, k ≤ N ∧ i = .int .i64 k ∧ QuV wr w.heap.size k ∧ Below w.heap.size w wr) (fun i _ => N - (intOf i).toNat)
  case atStart => exact ⟨0, Nat.zero_le _, rfl, hT1, hB1⟩
  case round =>
    clear hT1 hB1
    obtain ⟨k, hkl, rfl, hT, hB⟩ := hrel
    have hs := hB.size
    have hSr := hS.below hB hsb hhi
    rcases Nat.lt_or_ge k N with hlt | hge
    · obtain ⟨g1, g2⟩ := seg_pts (closed := closed) (l := l) (k := k) (by omega)
      have a1 := at_get g1
      have a2 := at_get g2
      have m1 := hbd _ (List.mem_of_getElem? a1)
      have m2 := hbd _ (List.mem_of_getElem? a2)
      have hsg := sgat_c sb k lo hi closed l _ _ ss wr hSr (by omega) a1 a2
      generalize at' l k = pa at *
      generalize at' l (if k = l.length - 1 then 0 else k + 1) = pb at *
      have hlt' : (k : Int) < (N : Int) := by omega
      clear a1 a2 hbd g1 g2
      go_wp2_with (go_at_call 49; refine JR.StopN.out ?_)
      refine ⟨?_⟩
      refine hsg.mono ?_
      rintro e w2 ⟨rfl, hb2⟩
      have hT2 := hT.below hb2
      have hB2 := hB.trans (hb2.mono hs)
      clear hsg hT hb2 hSr hB hs
      go_wp2_with (with_reducible refine stop_region ?_)
      refine ⟨?_⟩
      have hs2 := hB2.size
      have hnew := heap_alloc_new w2 (.cells #[fl (fb pa.1), fl (fb pa.2), fl (fb pb.1), fl (fb pb.2)] 64)
      have hB3 := hB2.alloc hs2 (.cells #[fl (fb pa.1), fl (fb pa.2), fl (fb pb.1), fl (fb pb.2)] 64)
      have hT3 := hT2.below ((Below.refl _ w2).alloc (Nat.le_refl _) (.cells #[fl (fb pa.1), fl (fb pa.2), fl (fb pb.1), fl (fb pb.2)] 64))
      have hq9 : w2.heap.size ≠ w.heap.size := Nat.ne_of_gt hT2.lt
      clear hT2 hB2
      generalize (w2.alloc (.cells #[fl (fb pa.1), fl (fb pa.2), fl (fb pb.1), fl (fb pb.2)] 64)) = W at *
      generalize w2.heap.size = s9 at *
      generalize hq : w.heap.size = q at *
      obtain ⟨vi, xs, hrow, hown, hxs⟩ := id hT3
      have hqv := hT3.lt
      have hs9 := lt_of_some hnew
      have hsbW := (hB3.block sb hsb).trans hS.1
      have hsbl := lt_of_some hsbW
      have hdn : ∀ u, QuV u q (k + 1) → ∃ cs, cs ≠ #[.bool false, vi, .pointer none, .pointer none, .pointer none, .pointer none] ∧ u.heap[q]? = some (.cells cs 117 (0, 0)) := by
        rintro u ⟨vi', xs', hr', ho', -⟩
        refine ⟨_, fun he => ?_, hr'⟩
        obtain ⟨A, c, e1⟩ := own_slc hown
        obtain ⟨A', c', e2⟩ := own_slc ho'
        rw [e1, e2] at he
        simp at he
      have hwas : ∀ u, Was W (fun u => QuV u q (k + 1) ∧ Below q W u ∧ u.heap[s9]? = W.heap[s9]?) u → u.heap[sb]? = W.heap[sb]? ∧ u.heap[s9]? = W.heap[s9]? := by
        rintro u (hB | ⟨-, -, hB, h⟩)
        · exact ⟨hB.block sb hsbl, hB.block s9 hs9⟩
        · exact ⟨hB.block sb hsb, h⟩
      refine wp_region_W (fun u => QuV u q (k + 1) ∧ Below q W u ∧ u.heap[s9]? = W.heap[s9]?)
        [.val (.pointer (some ⟨q, 0, none⟩)), .val (.pointer (some ⟨sb, 0, none⟩)), .val (.pointer (some ⟨sb, 0, none⟩)), .val (.pointer (some ⟨sb, 0, none⟩)), .val (.pointer (some ⟨sb, 5, none⟩)),
          .val (.agg #[fl r0, fl r1, fl r2, fl r3]), .val (.agg #[fl (fb pa.1), fl (fb pa.2), fl (fb pb.1), fl (fb pb.2)]),
          .val (.agg #[fl (if pb.1 < pa.1 then fb pb.1 else fb pa.1), fl (if pb.2 < pa.2 then fb pb.2 else fb pa.2), fl (if pb.1 < pa.1 then fb pa.1 else fb pb.1), fl (if pb.2 < pa.2 then fb pa.2 else fb pb.2)]),
          .val (.int .i64 k), .turn q #[.bool false, vi, .pointer none, .pointer none, .pointer none, .pointer none] (· ≠ #[.bool false, vi, .pointer none, .pointer none, .pointer none, .pointer none]) 117]
        [[.ini 6], [.ini 0], [.ini 0], [.frm 2 71], [.frm 3 72], [.frm 4 73], [.ini 9], [.frm 6 75], [.ini 8], [.til 9, .frm 0 69, .frm 1 70, .frm 5 74, .frm 7 76, .frm 8 77]]
        mixed (by kernel_rfl) (by kernel_rfl) (allPre_of ⟨trivial, trivial, trivial, trivial, trivial, trivial, trivial, trivial, trivial, hrow, trivial⟩)
        (fun u u' he ⟨h1, h2, h3⟩ => ⟨h1.below he, h2.trans (he.mono (Nat.le_trans (Nat.le_of_lt hqv) h2.size)), (he.block s9 (Nat.lt_of_lt_of_le hs9 h2.size)).trans h3⟩)
        ⟨OpOk.quiet rfl ?_, OpOk.quiet rfl ?_, OpOk.quiet rfl ?_, OpOk.quiet rfl ?_, OpOk.quiet rfl ?_, OpOk.quiet rfl ?_, OpOk.quiet rfl ?_, OpOk.call rfl ?_, OpOk.quiet rfl ?_,
          OpOk.last rfl (fun u h => hdn u h.1) ⟨.inr ⟨rfl, fun _ _ h => h⟩, .inr ⟨rfl, fun _ _ h => h⟩, .inr ⟨rfl, fun _ _ h => h⟩, .inr ⟨rfl, fun _ _ h => h⟩, .inr ⟨rfl, fun _ _ h => h⟩, .inr ⟨rfl, fun _ _ h => h⟩, .inr ⟨rfl, fun _ _ h => h⟩, .inr ⟨rfl, fun _ _ h => h⟩, .inr ⟨rfl, fun _ _ h => h⟩, .inl rfl, trivial⟩ (fun a u hf => hf.1) ?_, trivial⟩ ?_
      · intro a u _ hf
        simp [facts, Need.fact, Act.eval] at hf
        go_simp
      · intro a u _ hf
        simp [facts, Need.fact, Act.eval] at hf
        go_simp
      · intro a u _ hf
        simp [facts, Need.fact, Act.eval] at hf
        go_simp
      · intro a u _ hf
        simp [facts, Need.fact, Ent.val, Act.eval] at hf
        go_simp
      · intro a u _ hf
        simp [facts, Need.fact, Ent.val, Act.eval] at hf
        go_simp
      · intro a u hG hf
        simp [facts, Need.fact, Ent.val, Act.eval] at hf
        have hr := (hwas u hG).1.trans hsbW
        have y5 := (cellAt hr 5).trans h5
        have y6 := (cellAt hr 6).trans h6
        have y7 := (cellAt hr 7).trans h7
        have y8 := (cellAt hr 8).trans h8
        go_simp
      · intro a u hG hf
        simp [facts, Need.fact, Act.eval] at hf
        have hr := (hwas u hG).2.trans hnew
        have y0 := cellAt hr 0
        have y1 := cellAt hr 1
        have y2 := cellAt hr 2
        have y3 := cellAt hr 3
        simp only [List.getElem?_toArray, List.getElem?_cons_zero, List.getElem?_cons_succ] at y0 y1 y2 y3
        go_simp
      · intro a u _ hf
        simp [facts, Need.fact, Ent.val, Act.eval] at hf
        refine ⟨_, _, by go_simp, (sgr_c (fb_rep pa.1 (by omega)) (fb_rep pa.2 (by omega)) (fb_rep pb.1 (by omega)) (fb_rep pb.2 (by omega)) u).mono ?_⟩
        rintro e w' ⟨rfl, hb⟩
        exact ⟨_, rfl, hb, rfl⟩
      · intro a u _ hf
        simp [facts, Need.fact, Act.eval] at hf
        go_simp
      · intro a u hBu hf
        obtain ⟨-, hf⟩ := hf
        simp [facts, Need.fact, Ent.val, Act.eval] at hf
        have hsu := hBu.size
        refine ⟨_, _, by go_simp, (qinsert_c q k q r0 r1 r2 r3 (if pb.1 < pa.1 then fb pb.1 else fb pa.1) (if pb.2 < pa.2 then fb pb.2 else fb pa.2) (if pb.1 < pa.1 then fb pa.1 else fb pb.1) (if pb.2 < pa.2 then fb pa.2 else fb pb.2) (.pointer (some ⟨sb, 0, none⟩)) u (hT3.below hBu) (by omega) (Nat.le_refl _) (by omega)).mono ?_⟩
        rintro e w' ⟨rfl, hQ, hB', hoth⟩
        refine ⟨_, rfl, Nat.le_of_lt_succ (Nat.lt_succ_of_le ?_), hQ, (hBu.mono (by omega)).trans hB', (hoth s9 _ _ hq9 (by decide) ((hBu.block s9 hs9).trans hnew)).trans hnew.symm⟩
        exact hB'.size
      intro v l' h' wc hW hE
      have hD : QuV wc q (k + 1) ∧ Below q W wc := by
        rcases hW with hW | ⟨-, h1, h2, -⟩
        · simp only [allE, Ent.turn] at hE
          obtain ⟨-, -, -, -, -, -, -, -, -, ⟨cs, g1, g2⟩, -⟩ := hE
          rw [(hW.block q hqv).trans hrow] at g2
          cases g2
          exact absurd rfl g1
        · exact ⟨h1, h2⟩
      simp only [allE, Ent.val] at hE
      obtain ⟨e0, e1, e2, e3, e4, e5, e6, e7, e8, -⟩ := hE
      simp only [Nat.reduceAdd] at e0 e1 e2 e3 e4 e5 e6 e7 e8
      simp only [allPut, Act.put, e0, e1, e2, e3, e4, e5, e6, e7, e8, Nat.reduceAdd]
      generalize v 9 = x78
      generalize (if pb.1 < pa.1 then fb pb.1 else fb pa.1) = q0
      generalize (if pb.2 < pa.2 then fb pb.2 else fb pa.2) = q1
      generalize (if pb.1 < pa.1 then fb pa.1 else fb pb.1) = q2
      generalize (if pb.2 < pa.2 then fb pa.2 else fb pb.2) = q3
      clear hW hwas hdn hT3 hrow hown hxs e0 e1 e2 e3 e4 e5 e6 e7 e8
      obtain ⟨hT4, hB4⟩ := hD
      have hB5 := hB3.trans hB4
      clear hB3 hB4 hnew hsbW m1 m2
      subst hq
      go_wp2
      go_roundw
      case rel => exact ⟨k + 1, by omega, by go_num, hT4, hB5⟩
      case measure => simp [intOf]; omega
    · have hkk : k = N := by omega
      subst hkk
      have hnl : ¬ (k : Int) < (k : Int) := by omega
      have st := (Blk.nil wr).push rfl #[.int .u8 2, .int .u8 0, .int .u8 0, .int .u8 0, .int .u8 0] 5
      have hSr2 := (st.hb.block sb (by omega)).trans hSr.1
      have x5 := (cellAt hSr2 5).trans h5
      have x6 := (cellAt hSr2 6).trans h6
      have x7 := (cellAt hSr2 7).trans h7
      have x8 := (cellAt hSr2 8).trans h8
      have hb5 := byt_five (a := 2) (b := 0) (c := 0) (d := 0) (e := 0) (st.known 0 _ rfl) (Nat.le_refl wr.heap.size)
      have hcm := qcompress_c w.heap.size k 5 r0 r1 r2 r3 _ wr _ hT (by omega) st.hb hb5 (by omega)
      clear st hb5 hbd
      go_wp2_with (go_at_call 55; refine JR.StopN.out ?_)
      refine ⟨?_⟩
      refine hcm.mono ?_
      rintro e w2 ⟨v2, m2, rfl, hv2, hm2, hm2', hb2⟩
      have hB2 := (hB.trans ((((Below.refl wr.heap.size wr).alloc (Nat.le_refl _) _).trans hb2).mono hs))
      have hS2 := hS.below hB2 hsb hhi
      have hsc := setComp_c sb m2 wr.heap.size v2 ss w2 hS2.1 hss hv2 (by omega) (by omega) (by have := hb2.size; simp at this; omega) (by omega)
      clear hcm hv2 hS2 hSr hb2
      go_wp2_with (go_at_call 52; refine JR.StopN.out ?_)
      refine ⟨?_⟩
      refine hsc.mono ?_
      rintro e w3 ⟨rfl, w4, x, hb4, hr4, rfl⟩
      clear hsc
      go_wp2
      go_end0
      exact bip_of hsb hB2 (hb4.mono hs) hr4
end Go.Proofs.Ytkldjceopjfjhaa
