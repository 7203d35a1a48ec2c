import Derived.Test.YtkldjceopjfjhaaMt
import Derived.Test.YtkldjceopjfjhaaVp
import Derived.LoopN
import Derived.Test.YtkldjceopjfjhaaJb
import Derived.Test.YtkldjceopjfjhaaRa
set_option linter.unusedSimpArgs false
set_option linter.unusedVariables false
/-! impl.SeriesOf. -/
namespace Go.Proofs.Ytkldjceopjfjhaa
open Go.RowKit PF JR
theorem infoSA : (Try.prog.info? 30).map (fun i => (i.zero, i.size, i.bytes)) = some (some (.agg #[.int .i64 0, .int .i64 0, .int .i64 0, .int .i64 0]), 4, 32) := by kernel_rfl
theorem box_bnd {l : List (Int × Int)} (h : ∀ p ∈ l, Bnd p) : Bnd ((box l).1, (box l).2.1) ∧ Bnd ((box l).2.2.1, (box l).2.2.2) := bxs_bnd l _ h (at_bnd h 0) (at_bnd h 0)
theorem ixNe' (x : Value) (h : IxV x) : ∃ bi : Bool, (∀ w, (binOp .neq 20 x .nilIface).run Try.prog w = .ok (.bool bi) w) ∧ ∀ w, (eqGuard .neq 20 (.tmp 35) (.const .nilIface) x .nilIface).run Try.prog w = .ok () w := by
  rcases h with rfl | ⟨y, rfl⟩
  · exact ⟨false, fun w => by kernel_rfl, fun w => by kernel_rfl⟩
  · exact ⟨true, fun w => by kernel_rfl, fun w => by kernel_rfl⟩
theorem _root_.PF.SlR.wide {l h l' h' : Nat} {w : World} {v : Value} {L : List (Int × Int)} (H : SlR l h w v L) (h1 : l' ≤ l) (h2 : h ≤ h') : SlR l' h' w v L := by
  obtain ⟨A, c, hv, hh⟩ := H
  refine ⟨A, c, hv, fun k p hp => ?_⟩
  obtain ⟨b, g1, g4, g5, g2, g3⟩ := hh k p hp
  exact ⟨b, g1, by omega, by omega, g2, g3⟩
/-- what a series says of itself -/
def SoP (closed : Bool) (l : List (Int × Int)) (w : World) (e : Ending) (w' : World) : Prop :=
  ∃ (A : Option Addr) (c : Nat) (B : Option Addr) (m d : Nat) (bv bi : Bool), e = .returned (.agg #[.int .i64 l.length, .int .i64 (nSeg closed l), .slice A l.length c, .slice B m d, .int .i64 (box l).1, .int .i64 (box l).2.1, .int .i64 (box l).2.2.1, .int .i64 (box l).2.2.2, .bool false, .bool bv, .bool (!(cvs l l.length).1), .bool (decide (0 < cws l l.length)), .bool bi]) ∧
    SlR w.heap.size w'.heap.size w' (.slice A l.length c) l ∧ Below w.heap.size w w'
theorem mthNum_true (b : Nat) (w : World) : (method 268 97 (.pointer (some ⟨b, 0, none⟩)) "NumPoints").run Try.prog w = .ok (103, .pointer (some ⟨b, 0, none⟩)) w := by kernel_rfl
theorem mthNumS_true (b : Nat) (w : World) : (method 268 97 (.pointer (some ⟨b, 0, none⟩)) "NumSegments").run Try.prog w = .ok (48, .pointer (some ⟨b, 0, none⟩)) w := by kernel_rfl
theorem mthRect_true (b : Nat) (w : World) : (method 268 97 (.pointer (some ⟨b, 0, none⟩)) "Rect").run Try.prog w = .ok (105, .pointer (some ⟨b, 0, none⟩)) w := by kernel_rfl
theorem mthEmpty_true (b : Nat) (w : World) : (method 268 97 (.pointer (some ⟨b, 0, none⟩)) "Empty").run Try.prog w = .ok (101, .pointer (some ⟨b, 0, none⟩)) w := by kernel_rfl
theorem mthConvex_true (b : Nat) (w : World) : (method 268 97 (.pointer (some ⟨b, 0, none⟩)) "Convex").run Try.prog w = .ok (100, .pointer (some ⟨b, 0, none⟩)) w := by kernel_rfl
theorem mthClock_true (b : Nat) (w : World) : (method 268 97 (.pointer (some ⟨b, 0, none⟩)) "Clockwise").run Try.prog w = .ok (99, .pointer (some ⟨b, 0, none⟩)) w := by kernel_rfl
theorem mthIndex_true (b : Nat) (w : World) : (method 268 97 (.pointer (some ⟨b, 0, none⟩)) "Index").run Try.prog w = .ok (102, .pointer (some ⟨b, 0, none⟩)) w := by kernel_rfl
theorem mthPoint_true (b : Nat) (w : World) : (method 268 97 (.pointer (some ⟨b, 0, none⟩)) "PointAt").run Try.prog w = .ok (104, .pointer (some ⟨b, 0, none⟩)) w := by kernel_rfl
theorem mthSeg_true (b : Nat) (w : World) : (method 268 97 (.pointer (some ⟨b, 0, none⟩)) "SegmentAt").run Try.prog w = .ok (49, .pointer (some ⟨b, 0, none⟩)) w := by kernel_rfl
theorem mthValid_true (b : Nat) (w : World) : (method 268 97 (.pointer (some ⟨b, 0, none⟩)) "Valid").run Try.prog w = .ok (108, .pointer (some ⟨b, 0, none⟩)) w := by kernel_rfl

set_option maxRecDepth 100000 in
set_option maxHeartbeats 8000000 in
theorem seriesOf_true (K : Nat) (hK2 : K ≤ 2) (l : List (Int × Int)) (hl : l.length ≤ 12) (h2l : 2 ≤ l.length) (h3l : true = true → 3 ≤ l.length) (hbd : ∀ p ∈ l, Bnd p) (v : Value) (w : World) (hv : SlP w v l) :
    Calls Try.prog 8 #[v, .bool true, .int .i64 K, .int .i64 2] w (SoP true l w) := by
  have st0 := (Blk.nil w).push rfl #[.int .i64 0, .int .i64 0, .slice none 0 0, .slice none 0 0, .int .i64 0, .int .i64 0, .int .i64 0, .int .i64 0, .bool false, .bool false, .bool false, .bool false, .bool false] 32
  have h3 : 3 ≤ l.length := h3l rfl
  have y1 : 0 ≤ 0 := Nat.le_refl _
  clear h3l
  unfold SoP
  go_enter Try.func8, Try.ntmps8
  go_wp2_with (go_at_call 17; refine JR.StopM.out ?_)
  refine ⟨?_⟩
  refine (series_c K hK2 true l hl h2l (fun _ => h3) hbd v _ (hv.below st0.hb)).mono ?_
  rintro e w1 ⟨b, rfl, hs1, hb⟩
  have st1 := st0.ext hb
  clear st0 hv
  have z1 : w.heap.size + 1 ≤ w1.heap.size := by have := hb.size; simpa using this
  have hs1 : SkP K true l 93 (w.heap.size + 1) w1.heap.size b w1 := by simpa [serB] using hs1
  clear hb
  simp only [serT, if_true, if_false, Bool.false_eq_true]
  replace y1 : w1.heap.size ≤ w1.heap.size := Nat.le_refl _
  have n1 := mthNum_true b
  have n2 := mthNumS_true b
  have n3 := mthRect_true b
  have n4 := mthEmpty_true b
  have n5 := mthValid_true b
  have n6 := mthConvex_true b
  have n7 := mthClock_true b
  have n8 := mthIndex_true b
  have n9 := mthPoint_true b
  have n10 := mthSeg_true b
  obtain ⟨q1, q2⟩ := box_bnd hbd
  go_wp2_with (go_at_call 103; refine JR.StopM.out ?_)
  refine ⟨?_⟩
  refine (msNum hs1).mono ?_
  rintro e w2 ⟨rfl, hb⟩
  have hs2 := hs1.below hb
  have st2 := st1.ext hb
  have y2 : w1.heap.size ≤ w2.heap.size := Nat.le_trans y1 hb.size
  clear hb hs1 st1 y1
  go_wp2_with (go_at_call 48; refine JR.StopM.out ?_)
  refine ⟨?_⟩
  refine (msNumS hs2 (by omega) h2l hbd).mono ?_
  rintro e w3 ⟨rfl, hb⟩
  have hs3 := hs2.below hb
  have st3 := st2.ext hb
  have y3 : w1.heap.size ≤ w3.heap.size := Nat.le_trans y2 hb.size
  clear hb hs2 st2 y2
  go_wp2_with (go_at_call 105; refine JR.StopM.out ?_)
  refine ⟨?_⟩
  refine (msRect hs3).mono ?_
  rintro e w4 ⟨rfl, hb⟩
  have hs4 := hs3.below hb
  have st4 := st3.ext hb
  have y4 : w1.heap.size ≤ w4.heap.size := Nat.le_trans y3 hb.size
  clear hb hs3 st3 y3
  go_wp2_with (go_at_call 18; refine JR.StopM.out ?_)
  refine ⟨?_⟩
  refine (corn_c (fb_rep (box l).1 (by have := q1.1; omega)) (fb_rep (box l).2.1 (by have := q1.2; omega)) (fb_rep (box l).2.2.1 (by have := q2.1; omega)) (fb_rep (box l).2.2.2 (by have := q2.2; omega)) (fun a b w => from_c a b w) _).mono ?_
  rintro e w5 ⟨rfl, hb⟩
  have hs5 := hs4.below hb
  have st5 := st4.ext hb
  have y5 : w1.heap.size ≤ w5.heap.size := Nat.le_trans y4 hb.size
  clear hb hs4 st4 y4
  go_wp2_with (go_at_call 101; refine JR.StopM.out ?_)
  refine ⟨?_⟩
  refine (msEmpty hs5 h2l (fun _ => h3)).mono ?_
  rintro e w6 ⟨rfl, hb⟩
  have hs6 := hs5.below hb
  have st6 := st5.ext hb
  have y6 : w1.heap.size ≤ w6.heap.size := Nat.le_trans y5 hb.size
  clear hb hs5 st5 y5
  go_wp2_with (go_at_call 108; refine JR.StopM.out ?_)
  refine ⟨?_⟩
  refine (msValid hs6 (by omega) hbd).mono ?_
  rintro e w7 ⟨bv, rfl, hb⟩
  have hs7 := hs6.below hb
  have st7 := st6.ext hb
  have y7 : w1.heap.size ≤ w7.heap.size := Nat.le_trans y6 hb.size
  clear hb hs6 st6 y6
  go_wp2_with (go_at_call 100; refine JR.StopM.out ?_)
  refine ⟨?_⟩
  refine (msConvex hs7).mono ?_
  rintro e w8 ⟨rfl, hb⟩
  have hs8 := hs7.below hb
  have st8 := st7.ext hb
  have y8 : w1.heap.size ≤ w8.heap.size := Nat.le_trans y7 hb.size
  clear hb hs7 st7 y7
  go_wp2_with (go_at_call 99; refine JR.StopM.out ?_)
  refine ⟨?_⟩
  refine (msClock hs8).mono ?_
  rintro e w9 ⟨rfl, hb⟩
  have hs9 := hs8.below hb
  have st9 := st8.ext hb
  have y9 : w1.heap.size ≤ w9.heap.size := Nat.le_trans y8 hb.size
  clear hb hs8 st8 y8
  go_wp2_with (go_at_call 102; refine JR.StopM.out ?_)
  refine ⟨?_⟩
  refine (msIndex hs9).mono ?_
  rintro e w10 ⟨ix, hix, rfl, hb⟩
  have hs10 := hs9.below hb
  have st10 := st9.ext hb
  have y10 : w1.heap.size ≤ w10.heap.size := Nat.le_trans y9 hb.size
  clear hb hs9 st9 y9
  obtain ⟨bi, hne, heg⟩ := ixNe' ix hix
  clear hix
  generalize ecw : decide (0 < cws l l.length) = cw at *
  generalize ecv : (!(cvs l l.length).1) = cv at *
  go_wp2_with (with_reducible refine stop_loop ?_)
  refine ⟨?_⟩
  have hnewA := heap_alloc_new w10 (.cells #[.int .i64 l.length, .int .i64 (nSeg true l), .slice none 0 0, .slice none 0 0, .int .i64 (box l).1, .int .i64 (box l).2.1, .int .i64 (box l).2.2.1, .int .i64 (box l).2.2.2, .bool false, .bool bv, .bool cv, .bool cw, .bool bi] 32)
  have R11 := (Below.heap_alloc w10 (.cells #[.int .i64 l.length, .int .i64 (nSeg true l), .slice none 0 0, .slice none 0 0, .int .i64 (box l).1, .int .i64 (box l).2.1, .int .i64 (box l).2.2.1, .int .i64 (box l).2.2.2, .bool false, .bool bv, .bool cv, .bool cw, .bool bi] 32) _ (st10.lt 0 rfl)).trans (st10.known 0 _ rfl)
  have B11 : Below w.heap.size w (w10.alloc (.cells #[.int .i64 l.length, .int .i64 (nSeg true l), .slice none 0 0, .slice none 0 0, .int .i64 (box l).1, .int .i64 (box l).2.1, .int .i64 (box l).2.2.1, .int .i64 (box l).2.2.2, .bool false, .bool bv, .bool cv, .bool cw, .bool bi] 32)) := st10.hb.alloc st10.hb.size _
  have hs11 := hs10.below ((Below.refl _ w10).alloc (Nat.le_refl _) (.cells #[.int .i64 l.length, .int .i64 (nSeg true l), .slice none 0 0, .slice none 0 0, .int .i64 (box l).1, .int .i64 (box l).2.1, .int .i64 (box l).2.2.1, .int .i64 (box l).2.2.2, .bool false, .bool bv, .bool cv, .bool cw, .bool bi] 32))
  have z11 : (w10.alloc (.cells #[.int .i64 l.length, .int .i64 (nSeg true l), .slice none 0 0, .slice none 0 0, .int .i64 (box l).1, .int .i64 (box l).2.1, .int .i64 (box l).2.2.1, .int .i64 (box l).2.2.2, .bool false, .bool bv, .bool cv, .bool cw, .bool bi] 32)).heap.size = w10.heap.size + 1 := by simp
  generalize w10.alloc (.cells #[.int .i64 l.length, .int .i64 (nSeg true l), .slice none 0 0, .slice none 0 0, .int .i64 (box l).1, .int .i64 (box l).2.1, .int .i64 (box l).2.2.1, .int .i64 (box l).2.2.2, .bool false, .bool bv, .bool cv, .bool cw, .bool bi] 32) = w11 at *
  generalize hb10 : w10.heap.size = b10 at *
  clear st10 hs10 hne heg
  have hlb : w.heap.size < b10 := by omega
  go_loopw [11] (fun v11 wr => ∃ k : Nat, k ≤ l.length ∧ v11 = .int .i64 k ∧ ∃ vp : Value, wr.ownsRow (b10 + 1) 29 2 vp k (cellsP (l.take k)) ∧ wr.heap[b10]? = some (.cells #[.int .i64 l.length, .int .i64 (nSeg true l), vp, .slice none 0 0, .int .i64 (box l).1, .int .i64 (box l).2.1, .int .i64 (box l).2.2.1, .int .i64 (box l).2.2.2, .bool false, .bool bv, .bool cv, .bool cw, .bool bi] 32 (0, 0)) ∧ wr.heap[w.heap.size]? = some (.cells #[.int .i64 0, .int .i64 0, .slice none 0 0, .slice none 0 0, .int .i64 0, .int .i64 0, .int .i64 0, .int .i64 0, .bool false, .bool false, .bool false, .bool false, .bool false] 32 (0, 0)) ∧ SkP K true l 93 (w.heap.size + 1) w1.heap.size b wr ∧ Below w.heap.size w wr ∧ b10 + 1 ≤ wr.heap.size) (fun v _ => l.length - (intOf v).toNat)
  case atStart => exact ⟨0, Nat.zero_le _, rfl, .slice none 0 0, World.ownsRow_nil _ _ _ _, hnewA, R11, hs11, B11, by omega⟩
  case round =>
    obtain ⟨k, hk, rfl, vp, o1, G5, R5, S5, B5, Z5⟩ := hrel
    clear hnewA R11 hs11 B11 z11
    go_wp2_with (first | (go_at_call 103; refine JR.StopM.out ?_) | (with_reducible refine stop_region ?_))
    refine ⟨?_⟩
    refine (msNum S5).mono ?_
    rintro e w5 ⟨rfl, hb5⟩
    have G6 := (hb5.block b10 (lt_of_some G5)).trans G5
    have R6 := (hb5.block w.heap.size (lt_of_some R5)).trans R5
    have S6 := S5.below hb5
    have O1 := o1.kept (Ext.grown hb5 none) (own_no _)
    have B6 : Below w.heap.size w w5 := B5.trans (hb5.mono B5.size)
    have Z6 : b10 + 1 ≤ w5.heap.size := Nat.le_trans Z5 hb5.size
    clear hb5 G5 R5 o1 B5 Z5 S5
    rcases Nat.lt_or_ge k l.length with hlt | hge
    · have hp := at_get hlt
      have hpb := at_bnd hbd k
      obtain ⟨pb1, pb2⟩ := hpb
      generalize at' l k = p at *
      have hlt' : (k : Int) < (l.length : Int) := by omega
      have hfg := fun g (hg : vp.ownBlock = some g) => O1.lt g hg
      have hnb : b10 ∉ vp.ownBlock.toList := by intro hm; simp at hm; have := (hfg _ hm).1; omega
      have hnr : w.heap.size ∉ b10 :: vp.ownBlock.toList := by intro hm; simp at hm; rcases hm with hm | hm; omega; have := (hfg _ hm).1; omega
      have hnS : ∀ j, j < w1.heap.size → j ∉ b10 :: vp.ownBlock.toList := by intro j hj hm; simp at hm; rcases hm with hm | hm; omega; have := (hfg _ hm).1; omega
      obtain ⟨i25, hi, hz0, hz1, hz2⟩ := info_parts infoP
      go_wp2_with (with_reducible refine stop_region ?_)
      refine ⟨?_⟩
      refine wp_region_K (b10 :: vp.ownBlock.toList) [.val (.pointer (some ⟨b10, 2, none⟩)), .val vp, .val (.iface 97 (.pointer (some ⟨b, 0, none⟩))), .val (.int .i64 k), .val (.agg #[fl (fb p.1), fl (fb p.2)]), .val (.agg #[.int .i64 p.1, .int .i64 p.2]),
          .slc 29 #[.int .i64 p.1, .int .i64 p.2], .app vp k (cellsP (l.take k)) (b10 + 1) 29 2 (k + 1) (cellsP (l.take k) ++ [.int .i64 p.1, .int .i64 p.2]), .val (.pointer (some ⟨b10, 2, none⟩)), .turnS b10 #[.int .i64 l.length, .int .i64 (nSeg true l), vp, .slice none 0 0, .int .i64 (box l).1, .int .i64 (box l).2.1, .int .i64 (box l).2.2.1, .int .i64 (box l).2.2.2, .bool false, .bool bv, .bool cv, .bool cw, .bool bi] 2 51 32]
        [[.ini 10], [.frm 0 44, .til 9], [.ini 9], [.ini 11], [.frm 2 46, .frm 3 47], [.frm 4 48], [.frm 5 49], [.frm 1 45, .frm 6 50, .til 7], [.ini 10], [.frm 8 52, .frm 7 51, .til 9]]
        mixed (by kernel_rfl) (by kernel_rfl) (allPre_of ⟨trivial, trivial, trivial, trivial, trivial, trivial, trivial, O1, trivial, G6, trivial⟩)
        ⟨OpOk.quiet rfl ?_, OpOk.quiet rfl ?_, OpOk.quiet rfl ?_, OpOk.quiet rfl ?_, OpOk.call rfl ?_, OpOk.call rfl ?_, slc_run rfl ?_,
         OpOk.app (inf := i25) rfl rfl Try.underlying22 hi hz0 hz1 hz2 rfl (by decide) rfl (by intro u hu; simp at hu; rcases hu with rfl | rfl <;> rfl) (by unfold maxLen; omega) (by omega) Z6 (fun _ hG => hG.size) (fun b hb => (hfg b hb).2)
           (fun b hb => ⟨row_still rfl, row_still rfl, row_still rfl, row_still rfl, row_still rfl, row_still rfl, row_none rfl (fun h => (nomatch h)), row_self rfl, row_still rfl, row_turnS (by have := (hfg b hb).1; omega), trivial⟩)
           (fun b hb => oldFree_of ⟨.inr (fun h => (nomatch h)), .inr (fun h => (nomatch h)), .inr (fun h => (nomatch h)), .inr (fun h => (nomatch h)), .inr (fun h => (nomatch h)), .inr (fun h => (nomatch h)), .inr (fun h => (nomatch h)), .inl rfl, .inr (fun h => (nomatch h)), .inr (by have := (hfg b hb).1; simp [Ent.turnS]; omega), trivial⟩)
           ?_ (fun _ b _ hb h => Keep.setRow h (.inr (by simp [hb]))), OpOk.quiet rfl ?_,
         OpOk.turnS rfl rfl (lt_of_some G6) ⟨row_still rfl, row_still rfl, row_still rfl, row_still rfl, row_still rfl, row_still rfl, row_none rfl (fun h => (nomatch h)), row_none rfl hnb, row_still rfl, row_self rfl, trivial⟩
           (oldFree_of ⟨.inr (fun h => (nomatch h)), .inr (fun h => (nomatch h)), .inr (fun h => (nomatch h)), .inr (fun h => (nomatch h)), .inr (fun h => (nomatch h)), .inr (fun h => (nomatch h)), .inr (fun h => (nomatch h)), .inr hnb, .inr (fun h => (nomatch h)), .inl rfl, trivial⟩)
           (by kernel_rfl) (by simp) ?_ (fun _ _ h => Keep.setRow h (.inr (by simp))), trivial⟩ ?_
      · intro a u _ hf
        simp [facts, Need.fact, Act.eval] at hf
        go_simp
      · intro a u _ hf
        obtain ⟨⟨_, _, f1⟩, f2, -⟩ := hf
        have f1' : a.eval (.tmp 44) = .pointer (some ⟨b10, 2, none⟩) := f1
        have c11 := cellAt (show u.heap[b10]? = some (.cells #[.int .i64 l.length, .int .i64 (nSeg true l), vp, .slice none 0 0, .int .i64 (box l).1, .int .i64 (box l).2.1, .int .i64 (box l).2.2.1, .int .i64 (box l).2.2.2, .bool false, .bool bv, .bool cv, .bool cw, .bool bi] 32 (0, 0)) from f2) 2
        simp only [List.getElem?_toArray, List.getElem?_cons_zero, List.getElem?_cons_succ] at c11
        clear f1 f2
        simp [Act.eval] at f1'
        go_simp
      · intro a u _ hf
        simp [facts, Need.fact, Act.eval] at hf
        go_simp
      · intro a u _ hf
        simp [facts, Need.fact, Act.eval] at hf
        go_simp
      · intro a u hG hf
        simp [facts, Need.fact, Ent.val, Act.eval] at hf
        have S7 := S6.keep fun j h1 h2 h3 => hG.block j h3 (hnS j h2)
        refine ⟨_, _, by go_simp, (msPoint S7 k p hp (by omega)).mono ?_⟩
        rintro e w' ⟨rfl, hb⟩
        exact ⟨_, rfl, hb, rfl⟩
      · intro a u _ hf
        simp [facts, Need.fact, Ent.val, Act.eval] at hf
        refine ⟨_, _, by go_simp, (from_c (fb_rep p.1 (by omega)) (fb_rep p.2 (by omega)) _).mono ?_⟩
        rintro e w' ⟨rfl, hb⟩
        exact ⟨_, rfl, hb, rfl⟩
      · intro a u _ hf
        simp [facts, Need.fact, Ent.val, Act.eval] at hf
        go_simp
      · intro a u _ hf
        obtain ⟨⟨_, _, f1⟩, ⟨_, _, b, f2, _, _, f3⟩, f4, -⟩ := hf
        exact ⟨f1, f4, ⟨b, 0, none⟩, 1, f2, row_cells f3⟩
      · intro a u _ hf
        simp [facts, Need.fact, Act.eval] at hf
        go_simp
      · intro a u _ hf
        obtain ⟨⟨_, _, f1⟩, ⟨_, _, f2, f5⟩, f4, -⟩ := hf
        exact ⟨f1, own_one f2, f4⟩
      · intro uu l' h wc hK hE hI hD
        obtain ⟨v0, v1, v2, v3, v4, v5, ⟨b6, v6, -, -, -⟩, ⟨o7, -⟩, v8, e9, -⟩ := hE
        replace v0 : uu 0 = .pointer (some ⟨b10, 2, none⟩) := v0
        replace v1 : uu 1 = vp := v1
        replace v2 : uu 2 = .iface 97 (.pointer (some ⟨b, 0, none⟩)) := v2
        replace v3 : uu 3 = .int .i64 k := v3
        replace v4 : uu 4 = .agg #[fl (fb p.1), fl (fb p.2)] := v4
        replace v5 : uu 5 = .agg #[.int .i64 p.1, .int .i64 p.2] := v5
        replace v8 : uu 8 = .pointer (some ⟨b10, 2, none⟩) := v8
        simp [Ent.turnS, allPut, Act.put, Act.eval, Array.setIfInBounds] at e9
        have R' := (hK.block w.heap.size (lt_of_some R6) hnr).trans R6
        have S' := S6.keep fun j h1 h2 h3 => hK.block j h3 (hnS j h2)
        have B' := Keep.belowX (B := w.heap.size) hK B6 B6.size (by intro x hx; simp at hx; rcases hx with hx | hx; omega; have := (hfg _ hx).1; omega)
        have Z' : b10 + 1 ≤ wc.heap.size := Nat.le_trans Z6 hK.size
        rw [← cellsP_snoc l k p hp] at o7
        simp only [allPut, Act.put, v0, v1, v2, v3, v4, v5, v6, v8]
        generalize uu 7 = v7 at *
        clear v0 v1 v2 v3 v4 v5 v6 v8 hK hI hD G6 R6 S6 O1 B6 Z6 hfg hnb hnr hnS
        go_wp2
        go_roundw
        case rel => exact ⟨k + 1, by omega, by go_num, v7, o7, e9, R', S', B', Z'⟩
        case measure => simp [intOf]; omega
    · have hk5 : k = l.length := by omega
      subst hk5
      rw [List.take_length] at O1
      obtain ⟨g5, cp, rfl⟩ := own_slice O1 (by omega)
      have Q6 := SlR.own O1 (Nat.le_refl _)
      obtain ⟨b12, hb12⟩ : ∃ b12, b12 = w5.heap.size := ⟨_, rfl⟩
      have hbq : b10 + 1 ≤ b12 := by omega
      rw [← hb12] at Q6
      clear O1
      go_wp2_with (with_reducible refine stop_loop ?_)
      refine ⟨?_⟩
      go_loopw [12] (fun v12 wr => ∃ k : Nat, k ≤ nSeg true l ∧ v12 = .int .i64 k ∧ ∃ (vs : Value) (xs : List Value), wr.ownsRow b12 30 4 vs k xs ∧ wr.heap[b10]? = some (.cells #[.int .i64 l.length, .int .i64 (nSeg true l), .slice (some g5) l.length cp, vs, .int .i64 (box l).1, .int .i64 (box l).2.1, .int .i64 (box l).2.2.1, .int .i64 (box l).2.2.2, .bool false, .bool bv, .bool cv, .bool cw, .bool bi] 32 (0, 0)) ∧ wr.heap[w.heap.size]? = some (.cells #[.int .i64 0, .int .i64 0, .slice none 0 0, .slice none 0 0, .int .i64 0, .int .i64 0, .int .i64 0, .int .i64 0, .bool false, .bool false, .bool false, .bool false, .bool false] 32 (0, 0)) ∧ SkP K true l 93 (w.heap.size + 1) w1.heap.size b wr ∧ Below w.heap.size w wr ∧ b12 ≤ wr.heap.size ∧ SlR (b10 + 1) b12 wr (.slice (some g5) l.length cp) l) (fun v _ => nSeg true l - (intOf v).toNat)
      case atStart => exact ⟨0, Nat.zero_le _, rfl, .slice none 0 0, [], World.ownsRow_nil _ _ _ _, G6, R6, S6, B6, by omega, Q6⟩
      case round =>
        obtain ⟨k, hk, rfl, vs, xs, o1, G5, R5, S5, B5, Z5, Q5⟩ := hrel
        clear G6 R6 S6 B6 Z6 Q6 hb12
        go_wp2_with (first | (go_at_call 48; refine JR.StopM.out ?_) | (with_reducible refine stop_region ?_))
        refine ⟨?_⟩
        refine (msNumS S5 (by omega) h2l hbd).mono ?_
        rintro e w6 ⟨rfl, hb5⟩
        have G6 := (hb5.block b10 (lt_of_some G5)).trans G5
        have R6 := (hb5.block w.heap.size (lt_of_some R5)).trans R5
        have S6 := S5.below hb5
        have O1 := o1.kept (Ext.grown hb5 none) (own_no _)
        have B6 : Below w.heap.size w w6 := B5.trans (hb5.mono B5.size)
        have Z6 : b12 ≤ w6.heap.size := Nat.le_trans Z5 hb5.size
        have Q6 : SlR (b10 + 1) b12 w6 (.slice (some g5) l.length cp) l := Q5.keep fun j h1 h2 => hb5.block j (by omega)
        clear hb5 G5 R5 o1 B5 Z5 S5 Q5
        rcases Nat.lt_or_ge k (nSeg true l) with hlt | hge
        · obtain ⟨g1, g2⟩ := seg_pts (closed := true) (l := l) (k := k) hlt
          have a1 := at_get g1
          have a2 := at_get g2
          obtain ⟨pb1, pb2⟩ := at_bnd hbd k
          obtain ⟨qb1, qb2⟩ := at_bnd hbd (if k = l.length - 1 then 0 else k + 1)
          have hsg := msSeg S6 (by omega) k _ _ a1 a2
          generalize at' l k = p at *
          generalize at' l (if k = l.length - 1 then 0 else k + 1) = q at *
          have hlt' : (k : Int) < (nSeg true l : Int) := by omega
          have hns := nSeg_le true l
          clear a1 a2 g1 g2
          go_wp2_with (first | (go_at_call 49; refine JR.StopM.out ?_) | (with_reducible refine stop_region ?_))
          refine ⟨?_⟩
          refine hsg.mono ?_
          rintro e w7 ⟨rfl, hb6⟩
          have G7 := (hb6.block b10 (lt_of_some G6)).trans G6
          have R7 := (hb6.block w.heap.size (lt_of_some R6)).trans R6
          have S7 := S6.below hb6
          have O2 := O1.kept (Ext.grown hb6 none) (own_no _)
          have B7 : Below w.heap.size w w7 := B6.trans (hb6.mono B6.size)
          have Z7 : b12 ≤ w7.heap.size := Nat.le_trans Z6 hb6.size
          have Q7 : SlR (b10 + 1) b12 w7 (.slice (some g5) l.length cp) l := Q6.keep fun j h1 h2 => hb6.block j (by omega)
          clear hb6 G6 R6 O1 B6 Z6 S6 Q6 hsg
          go_wp2_with (with_reducible refine stop_region ?_)
          refine ⟨?_⟩
          have hfg := fun g (hg : vs.ownBlock = some g) => O2.lt g hg
          have hnb : b10 ∉ vs.ownBlock.toList := by intro hm; simp at hm; have := (hfg _ hm).1; omega
          have hnr : w.heap.size ∉ b10 :: vs.ownBlock.toList := by intro hm; simp at hm; rcases hm with hm | hm; omega; have := (hfg _ hm).1; omega
          have hnS : ∀ j, j < w1.heap.size → j ∉ b10 :: vs.ownBlock.toList := by intro j hj hm; simp at hm; rcases hm with hm | hm; omega; have := (hfg _ hm).1; omega
          have hns : w7.heap.size ∉ b10 :: vs.ownBlock.toList := by intro hm; simp at hm; rcases hm with hm | hm; omega; have := (hfg _ hm).2; omega
          have hnq : ∀ j, b10 + 1 ≤ j → j < b12 → j ∉ b10 :: vs.ownBlock.toList := by intro j h1 h2 hm; simp at hm; rcases hm with hm | hm; omega; have := (hfg _ hm).1; omega
          have hsz8 : (w7.alloc (.cells #[fl (fb p.1), fl (fb p.2), fl (fb q.1), fl (fb q.2)] 64)).heap.size = w7.heap.size + 1 := by simp
          have G8 : (w7.alloc (.cells #[fl (fb p.1), fl (fb p.2), fl (fb q.1), fl (fb q.2)] 64)).heap[b10]? = _ := (Below.heap_alloc w7 _ _ (lt_of_some G7)).trans G7
          have R8 : (w7.alloc (.cells #[fl (fb p.1), fl (fb p.2), fl (fb q.1), fl (fb q.2)] 64)).heap[w.heap.size]? = _ := (Below.heap_alloc w7 _ _ (lt_of_some R7)).trans R7
          have hbA : Below w7.heap.size w7 (w7.alloc (.cells #[fl (fb p.1), fl (fb p.2), fl (fb q.1), fl (fb q.2)] 64)) := (Below.refl _ w7).alloc (Nat.le_refl _) _
          have S8 := S7.below hbA
          have V8 := heap_alloc_new w7 (.cells #[fl (fb p.1), fl (fb p.2), fl (fb q.1), fl (fb q.2)] 64)
          have O3 := O2.alloc (.cells #[fl (fb p.1), fl (fb p.2), fl (fb q.1), fl (fb q.2)] 64)
          have B8 : Below w.heap.size w (w7.alloc (.cells #[fl (fb p.1), fl (fb p.2), fl (fb q.1), fl (fb q.2)] 64)) := B7.alloc B7.size _
          have Q8 : SlR (b10 + 1) b12 (w7.alloc (.cells #[fl (fb p.1), fl (fb p.2), fl (fb q.1), fl (fb q.2)] 64)) (.slice (some g5) l.length cp) l := Q7.keep fun j h1 h2 => hbA.block j (by omega)
          have W0 := cellAt V8 0
          have W1 := cellAt V8 1
          have W2 := cellAt V8 2
          have W3 := cellAt V8 3
          simp only [List.getElem?_toArray, List.getElem?_cons_zero, List.getElem?_cons_succ] at W0 W1 W2 W3
          obtain ⟨i26, hi, hz0, hz1, hz2⟩ := info_parts infoSA
          generalize w7.alloc (.cells #[fl (fb p.1), fl (fb p.2), fl (fb q.1), fl (fb q.2)] 64) = w8 at *
          generalize hbs : w7.heap.size = bs at *
          clear G7 R7 O2 B7 S7 Q7 hbA
          refine wp_region_K (b10 :: vs.ownBlock.toList) [.val (.pointer (some ⟨b10, 3, none⟩)), .val vs, .val (.pointer (some ⟨bs, 0, none⟩)), .val (.agg #[fl (fb p.1), fl (fb p.2)]), .val (.agg #[.int .i64 p.1, .int .i64 p.2]), .val (.pointer (some ⟨bs, 2, none⟩)), .val (.agg #[fl (fb q.1), fl (fb q.2)]), .val (.agg #[.int .i64 q.1, .int .i64 q.2]), .val (.agg #[.int .i64 p.1, .int .i64 p.2, .int .i64 q.1, .int .i64 q.2]),
              .slc 30 #[.int .i64 p.1, .int .i64 p.2, .int .i64 q.1, .int .i64 q.2], .app vs k xs b12 30 4 (k + 1) (xs ++ [.int .i64 p.1, .int .i64 p.2, .int .i64 q.1, .int .i64 q.2]), .val (.pointer (some ⟨b10, 3, none⟩)), .turnS b10 #[.int .i64 l.length, .int .i64 (nSeg true l), .slice (some g5) l.length cp, vs, .int .i64 (box l).1, .int .i64 (box l).2.1, .int .i64 (box l).2.2.1, .int .i64 (box l).2.2.2, .bool false, .bool bv, .bool cv, .bool cw, .bool bi] 3 72 32]
            [[.ini 10], [.frm 0 62, .til 12], [.ini 13], [.frm 2 64], [.frm 3 65], [.ini 13], [.frm 5 67], [.frm 6 68], [.frm 4 66, .frm 7 69], [.frm 8 70], [.frm 1 63, .frm 9 71, .til 10], [.ini 10], [.frm 11 73, .frm 10 72, .til 12]]
            mixed (by kernel_rfl) (by kernel_rfl) (allPre_of ⟨trivial, trivial, trivial, trivial, trivial, trivial, trivial, trivial, trivial, trivial, O3, trivial, G8, trivial⟩)
            ⟨OpOk.quiet rfl ?_, OpOk.quiet rfl ?_, OpOk.quiet rfl ?_, OpOk.quiet rfl ?_, OpOk.call rfl ?_, OpOk.quiet rfl ?_, OpOk.quiet rfl ?_, OpOk.call rfl ?_, OpOk.quiet rfl ?_, slc_run rfl ?_,
             OpOk.app (inf := i26) rfl rfl Try.underlying27 hi hz0 hz1 hz2 rfl (by decide) rfl (by intro u hu; simp at hu; rcases hu with rfl | rfl | rfl | rfl <;> rfl) (by unfold maxLen; omega) (by omega) (by omega) (fun _ hG => hG.size) (fun b hb => by have := (hfg b hb).2; omega)
               (fun b hb => ⟨row_still rfl, row_still rfl, row_still rfl, row_still rfl, row_still rfl, row_still rfl, row_still rfl, row_still rfl, row_still rfl, row_none rfl (fun h => (nomatch h)), row_self rfl, row_still rfl, row_turnS (by have := (hfg b hb).1; omega), trivial⟩)
               (fun b hb => oldFree_of ⟨.inr (fun h => (nomatch h)), .inr (fun h => (nomatch h)), .inr (fun h => (nomatch h)), .inr (fun h => (nomatch h)), .inr (fun h => (nomatch h)), .inr (fun h => (nomatch h)), .inr (fun h => (nomatch h)), .inr (fun h => (nomatch h)), .inr (fun h => (nomatch h)), .inr (fun h => (nomatch h)), .inl rfl, .inr (fun h => (nomatch h)), .inr (by have := (hfg b hb).1; simp [Ent.turnS]; omega), trivial⟩)
               ?_ (fun _ b _ hb h => Keep.setRow h (.inr (by simp [hb]))), OpOk.quiet rfl ?_,
             OpOk.turnS rfl rfl (lt_of_some G8) ⟨row_still rfl, row_still rfl, row_still rfl, row_still rfl, row_still rfl, row_still rfl, row_still rfl, row_still rfl, row_still rfl, row_none rfl (fun h => (nomatch h)), row_none rfl hnb, row_still rfl, row_self rfl, trivial⟩
               (oldFree_of ⟨.inr (fun h => (nomatch h)), .inr (fun h => (nomatch h)), .inr (fun h => (nomatch h)), .inr (fun h => (nomatch h)), .inr (fun h => (nomatch h)), .inr (fun h => (nomatch h)), .inr (fun h => (nomatch h)), .inr (fun h => (nomatch h)), .inr (fun h => (nomatch h)), .inr (fun h => (nomatch h)), .inr hnb, .inr (fun h => (nomatch h)), .inl rfl, trivial⟩)
               (by kernel_rfl) (by simp) ?_ (fun _ _ h => Keep.setRow h (.inr (by simp))), trivial⟩ ?_
          · intro a u _ hf
            simp [facts, Need.fact, Act.eval] at hf
            go_simp
          · intro a u _ hf
            obtain ⟨⟨_, _, f1⟩, f2, -⟩ := hf
            have f1' : a.eval (.tmp 62) = .pointer (some ⟨b10, 3, none⟩) := f1
            have c11 := cellAt (show u.heap[b10]? = some (.cells #[.int .i64 l.length, .int .i64 (nSeg true l), .slice (some g5) l.length cp, vs, .int .i64 (box l).1, .int .i64 (box l).2.1, .int .i64 (box l).2.2.1, .int .i64 (box l).2.2.2, .bool false, .bool bv, .bool cv, .bool cw, .bool bi] 32 (0, 0)) from f2) 3
            simp only [List.getElem?_toArray, List.getElem?_cons_zero, List.getElem?_cons_succ] at c11
            clear f1 f2
            simp [Act.eval] at f1'
            go_simp
          · intro a u _ hf
            simp [facts, Need.fact, Act.eval] at hf
            go_simp
          · intro a u hG hf
            simp [facts, Need.fact, Ent.val, Act.eval] at hf
            have w0' := (hG.cell (p := ⟨bs, 0, none⟩) (lt_of_some V8) hns).trans W0
            have w1' := (hG.cell (p := ⟨bs, 1, none⟩) (lt_of_some V8) hns).trans W1
            go_simp
          · intro a u _ hf
            simp [facts, Need.fact, Ent.val, Act.eval] at hf
            refine ⟨_, _, by go_simp, (from_c (fb_rep p.1 (by omega)) (fb_rep p.2 (by omega)) _).mono ?_⟩
            rintro e w' ⟨rfl, hb⟩
            exact ⟨_, rfl, hb, rfl⟩
          · intro a u _ hf
            simp [facts, Need.fact, Act.eval] at hf
            go_simp
          · intro a u hG hf
            simp [facts, Need.fact, Ent.val, Act.eval] at hf
            have w0' := (hG.cell (p := ⟨bs, 2, none⟩) (lt_of_some V8) hns).trans W2
            have w1' := (hG.cell (p := ⟨bs, 3, none⟩) (lt_of_some V8) hns).trans W3
            go_simp
          · intro a u _ hf
            simp [facts, Need.fact, Ent.val, Act.eval] at hf
            refine ⟨_, _, by go_simp, (from_c (fb_rep q.1 (by omega)) (fb_rep q.2 (by omega)) _).mono ?_⟩
            rintro e w' ⟨rfl, hb⟩
            exact ⟨_, rfl, hb, rfl⟩
          · intro a u _ hf
            simp [facts, Need.fact, Ent.val, Act.eval] at hf
            go_simp
          · intro a u _ hf
            simp [facts, Need.fact, Ent.val, Act.eval] at hf
            go_simp
          · intro a u _ hf
            obtain ⟨⟨_, _, f1⟩, ⟨_, _, b, f2, _, _, f3⟩, f4, -⟩ := hf
            exact ⟨f1, f4, ⟨b, 0, none⟩, 1, f2, row_cells f3⟩
          · intro a u _ hf
            simp [facts, Need.fact, Act.eval] at hf
            go_simp
          · intro a u _ hf
            obtain ⟨⟨_, _, f1⟩, ⟨_, _, f2, f5⟩, f4, -⟩ := hf
            exact ⟨f1, own_one f2, f4⟩
          · intro uu l' h wc hK hE hI hD
            obtain ⟨v0, v1, v2, v3, v4, v5, v6, v7, v8, ⟨b6, v9, -, -, -⟩, ⟨o7, -⟩, v11, e9, -⟩ := hE
            replace v0 : uu 0 = .pointer (some ⟨b10, 3, none⟩) := v0
            replace v1 : uu 1 = vs := v1
            replace v2 : uu 2 = .pointer (some ⟨bs, 0, none⟩) := v2
            replace v3 : uu 3 = .agg #[fl (fb p.1), fl (fb p.2)] := v3
            replace v4 : uu 4 = .agg #[.int .i64 p.1, .int .i64 p.2] := v4
            replace v5 : uu 5 = .pointer (some ⟨bs, 2, none⟩) := v5
            replace v6 : uu 6 = .agg #[fl (fb q.1), fl (fb q.2)] := v6
            replace v7 : uu 7 = .agg #[.int .i64 q.1, .int .i64 q.2] := v7
            replace v8 : uu 8 = .agg #[.int .i64 p.1, .int .i64 p.2, .int .i64 q.1, .int .i64 q.2] := v8
            replace v11 : uu 11 = .pointer (some ⟨b10, 3, none⟩) := v11
            simp [Ent.turnS, allPut, Act.put, Act.eval, Array.setIfInBounds] at e9
            have R' := (hK.block w.heap.size (lt_of_some R8) hnr).trans R8
            have S' := S8.keep fun j h1 h2 h3 => hK.block j h3 (hnS j h2)
            have B' := Keep.belowX (B := w.heap.size) hK B8 B8.size (by intro x hx; simp at hx; rcases hx with hx | hx; omega; have := (hfg _ hx).1; omega)
            have Z' : b12 ≤ wc.heap.size := Nat.le_trans (by omega) hK.size
            have Q' : SlR (b10 + 1) b12 wc (.slice (some g5) l.length cp) l := Q8.keep fun j h1 h2 => hK.block j (by omega) (hnq j h1 h2)
            simp only [allPut, Act.put, v0, v1, v2, v3, v4, v5, v6, v7, v8, v9, v11]
            generalize uu 10 = v10 at *
            clear v0 v1 v2 v3 v4 v5 v6 v7 v8 v9 v11 hK hI hD G8 R8 S8 O3 B8 Z7 Q8 hfg hnb hnr hnS hns hnq W0 W1 W2 W3
            go_wp2
            go_roundw
            case rel => exact ⟨k + 1, by omega, by go_num, v10, _, o7, e9, R', S', B', Z', Q'⟩
            case measure => simp [intOf]; omega
        · have hk6 : k = nSeg true l := by omega
          subst hk6
          obtain ⟨B9, cB, rfl⟩ := own_slc O1
          have st := (((⟨fun i x h => by simp at h, B6⟩ : Blk w w6 []).add R6).add G6)
          have hne : w.heap.size ≠ b10 := by omega
          have hns := nSeg_le true l
          have hnl : ¬ (nSeg true l : Int) < (nSeg true l : Int) := by omega
          have x0 := st.cell 0 rfl 0
          have d0 := st.cell 1 rfl 0
          have x1 := st.cell 0 rfl 1
          have d1 := st.cell 1 rfl 1
          have x2 := st.cell 0 rfl 2
          have d2 := st.cell 1 rfl 2
          have x3 := st.cell 0 rfl 3
          have d3 := st.cell 1 rfl 3
          have x4 := st.cell 0 rfl 4
          have d4 := st.cell 1 rfl 4
          have x5 := st.cell 0 rfl 5
          have d5 := st.cell 1 rfl 5
          have x6 := st.cell 0 rfl 6
          have d6 := st.cell 1 rfl 6
          have x7 := st.cell 0 rfl 7
          have d7 := st.cell 1 rfl 7
          have x8 := st.cell 0 rfl 8
          have d8 := st.cell 1 rfl 8
          have x9 := st.cell 0 rfl 9
          have d9 := st.cell 1 rfl 9
          have x10 := st.cell 0 rfl 10
          have d10 := st.cell 1 rfl 10
          have x11 := st.cell 0 rfl 11
          have d11 := st.cell 1 rfl 11
          have x12 := st.cell 0 rfl 12
          have d12 := st.cell 1 rfl 12
          have xf := fun o => st.frozen 0 rfl o
          have df := fun o => st.frozen 1 rfl o
          simp only [List.getElem?_toArray, List.getElem?_cons_zero, List.getElem?_cons_succ] at x0 d0 x1 d1 x2 d2 x3 d3 x4 d4 x5 d5 x6 d6 x7 d7 x8 d8 x9 d9 x10 d10 x11 d11 x12 d12
          clear G6 R6 S6 O1
          go_wp2
          refine bodyPost_ret (v := .agg #[.int .i64 l.length, .int .i64 (nSeg true l), .slice (some g5) l.length cp, .slice B9 (nSeg true l) cB, .int .i64 (box l).1, .int .i64 (box l).2.1, .int .i64 (box l).2.2.1, .int .i64 (box l).2.2.2, .bool false, .bool bv, .bool cv, .bool cw, .bool bi]) (by simp [results, Try.results8, go_sem, d0, d1, d2, d3, d4, d5, d6, d7, d8, d9, d10, d11, d12]) rfl ⟨some g5, cp, B9, nSeg true l, cB, bv, bi, by subst ecw ecv; rfl, ?_, ?_⟩
          · refine SlR.wide (SlR.keep (fun j h1 h2 => ?_) Q6) (by omega) (by simp; omega)
            iterate 13 refine (Below.heap_setCell _ _ _ _ (by show j ≠ w.heap.size; omega)).trans ?_
            rfl
          · iterate 13 refine Below.setCell ?_ (by show w.heap.size ≤ w.heap.size; exact Nat.le_refl _) _
            exact st.hb

theorem mthNum_false (b : Nat) (w : World) : (method 268 84 (.pointer (some ⟨b, 0, none⟩)) "NumPoints").run Try.prog w = .ok (103, .pointer (some ⟨b, 0, none⟩)) w := by kernel_rfl
theorem mthNumS_false (b : Nat) (w : World) : (method 268 84 (.pointer (some ⟨b, 0, none⟩)) "NumSegments").run Try.prog w = .ok (48, .pointer (some ⟨b, 0, none⟩)) w := by kernel_rfl
theorem mthRect_false (b : Nat) (w : World) : (method 268 84 (.pointer (some ⟨b, 0, none⟩)) "Rect").run Try.prog w = .ok (105, .pointer (some ⟨b, 0, none⟩)) w := by kernel_rfl
theorem mthEmpty_false (b : Nat) (w : World) : (method 268 84 (.pointer (some ⟨b, 0, none⟩)) "Empty").run Try.prog w = .ok (101, .pointer (some ⟨b, 0, none⟩)) w := by kernel_rfl
theorem mthConvex_false (b : Nat) (w : World) : (method 268 84 (.pointer (some ⟨b, 0, none⟩)) "Convex").run Try.prog w = .ok (100, .pointer (some ⟨b, 0, none⟩)) w := by kernel_rfl
theorem mthClock_false (b : Nat) (w : World) : (method 268 84 (.pointer (some ⟨b, 0, none⟩)) "Clockwise").run Try.prog w = .ok (99, .pointer (some ⟨b, 0, none⟩)) w := by kernel_rfl
theorem mthIndex_false (b : Nat) (w : World) : (method 268 84 (.pointer (some ⟨b, 0, none⟩)) "Index").run Try.prog w = .ok (102, .pointer (some ⟨b, 0, none⟩)) w := by kernel_rfl
theorem mthPoint_false (b : Nat) (w : World) : (method 268 84 (.pointer (some ⟨b, 0, none⟩)) "PointAt").run Try.prog w = .ok (104, .pointer (some ⟨b, 0, none⟩)) w := by kernel_rfl
theorem mthSeg_false (b : Nat) (w : World) : (method 268 84 (.pointer (some ⟨b, 0, none⟩)) "SegmentAt").run Try.prog w = .ok (49, .pointer (some ⟨b, 0, none⟩)) w := by kernel_rfl
theorem mthValid_false (b : Nat) (w : World) : (method 268 84 (.pointer (some ⟨b, 0, none⟩)) "Valid").run Try.prog w = .ok (107, .pointer (some ⟨b, 0, none⟩)) w := by kernel_rfl

set_option maxRecDepth 100000 in
set_option maxHeartbeats 8000000 in
theorem seriesOf_false (K : Nat) (hK2 : K ≤ 2) (l : List (Int × Int)) (hl : l.length ≤ 12) (h2l : 2 ≤ l.length) (h3l : false = true → 3 ≤ l.length) (hbd : ∀ p ∈ l, Bnd p) (v : Value) (w : World) (hv : SlP w v l) :
    Calls Try.prog 8 #[v, .bool false, .int .i64 K, .int .i64 2] w (SoP false l w) := by
  have st0 := (Blk.nil w).push rfl #[.int .i64 0, .int .i64 0, .slice none 0 0, .slice none 0 0, .int .i64 0, .int .i64 0, .int .i64 0, .int .i64 0, .bool false, .bool false, .bool false, .bool false, .bool false] 32
  have h3 : True := trivial
  have y1 : 0 ≤ 0 := Nat.le_refl _
  clear h3l
  unfold SoP
  go_enter Try.func8, Try.ntmps8
  go_wp2_with (go_at_call 17; refine JR.StopM.out ?_)
  refine ⟨?_⟩
  refine (series_c K hK2 false l hl h2l (fun h => (nomatch h)) hbd v _ (hv.below st0.hb)).mono ?_
  rintro e w1 ⟨b, rfl, hs1, hb⟩
  have st1 := st0.ext hb
  clear st0 hv
  have z1 : w.heap.size + 1 ≤ w1.heap.size := by have := hb.size; simpa using this
  have hs1 : SkP K false l 95 (w.heap.size + 1) w1.heap.size b w1 := by simpa [serB] using hs1
  clear hb
  simp only [serT, if_true, if_false, Bool.false_eq_true]
  replace y1 : w1.heap.size ≤ w1.heap.size := Nat.le_refl _
  have n1 := mthNum_false b
  have n2 := mthNumS_false b
  have n3 := mthRect_false b
  have n4 := mthEmpty_false b
  have n5 := mthValid_false b
  have n6 := mthConvex_false b
  have n7 := mthClock_false b
  have n8 := mthIndex_false b
  have n9 := mthPoint_false b
  have n10 := mthSeg_false b
  obtain ⟨q1, q2⟩ := box_bnd hbd
  go_wp2_with (go_at_call 103; refine JR.StopM.out ?_)
  refine ⟨?_⟩
  refine (msNum hs1).mono ?_
  rintro e w2 ⟨rfl, hb⟩
  have hs2 := hs1.below hb
  have st2 := st1.ext hb
  have y2 : w1.heap.size ≤ w2.heap.size := Nat.le_trans y1 hb.size
  clear hb hs1 st1 y1
  go_wp2_with (go_at_call 48; refine JR.StopM.out ?_)
  refine ⟨?_⟩
  refine (msNumS hs2 (by omega) h2l hbd).mono ?_
  rintro e w3 ⟨rfl, hb⟩
  have hs3 := hs2.below hb
  have st3 := st2.ext hb
  have y3 : w1.heap.size ≤ w3.heap.size := Nat.le_trans y2 hb.size
  clear hb hs2 st2 y2
  go_wp2_with (go_at_call 105; refine JR.StopM.out ?_)
  refine ⟨?_⟩
  refine (msRect hs3).mono ?_
  rintro e w4 ⟨rfl, hb⟩
  have hs4 := hs3.below hb
  have st4 := st3.ext hb
  have y4 : w1.heap.size ≤ w4.heap.size := Nat.le_trans y3 hb.size
  clear hb hs3 st3 y3
  go_wp2_with (go_at_call 18; refine JR.StopM.out ?_)
  refine ⟨?_⟩
  refine (corn_c (fb_rep (box l).1 (by have := q1.1; omega)) (fb_rep (box l).2.1 (by have := q1.2; omega)) (fb_rep (box l).2.2.1 (by have := q2.1; omega)) (fb_rep (box l).2.2.2 (by have := q2.2; omega)) (fun a b w => from_c a b w) _).mono ?_
  rintro e w5 ⟨rfl, hb⟩
  have hs5 := hs4.below hb
  have st5 := st4.ext hb
  have y5 : w1.heap.size ≤ w5.heap.size := Nat.le_trans y4 hb.size
  clear hb hs4 st4 y4
  go_wp2_with (go_at_call 101; refine JR.StopM.out ?_)
  refine ⟨?_⟩
  refine (msEmpty hs5 h2l (fun h => (nomatch h))).mono ?_
  rintro e w6 ⟨rfl, hb⟩
  have hs6 := hs5.below hb
  have st6 := st5.ext hb
  have y6 : w1.heap.size ≤ w6.heap.size := Nat.le_trans y5 hb.size
  clear hb hs5 st5 y5
  go_wp2_with (go_at_call 107; refine JR.StopM.out ?_)
  refine ⟨?_⟩
  refine (mlValid hs6 (by omega) hbd).mono ?_
  rintro e w7 ⟨bv, rfl, hb⟩
  have hs7 := hs6.below hb
  have st7 := st6.ext hb
  have y7 : w1.heap.size ≤ w7.heap.size := Nat.le_trans y6 hb.size
  clear hb hs6 st6 y6
  go_wp2_with (go_at_call 100; refine JR.StopM.out ?_)
  refine ⟨?_⟩
  refine (msConvex hs7).mono ?_
  rintro e w8 ⟨rfl, hb⟩
  have hs8 := hs7.below hb
  have st8 := st7.ext hb
  have y8 : w1.heap.size ≤ w8.heap.size := Nat.le_trans y7 hb.size
  clear hb hs7 st7 y7
  go_wp2_with (go_at_call 99; refine JR.StopM.out ?_)
  refine ⟨?_⟩
  refine (msClock hs8).mono ?_
  rintro e w9 ⟨rfl, hb⟩
  have hs9 := hs8.below hb
  have st9 := st8.ext hb
  have y9 : w1.heap.size ≤ w9.heap.size := Nat.le_trans y8 hb.size
  clear hb hs8 st8 y8
  go_wp2_with (go_at_call 102; refine JR.StopM.out ?_)
  refine ⟨?_⟩
  refine (msIndex hs9).mono ?_
  rintro e w10 ⟨ix, hix, rfl, hb⟩
  have hs10 := hs9.below hb
  have st10 := st9.ext hb
  have y10 : w1.heap.size ≤ w10.heap.size := Nat.le_trans y9 hb.size
  clear hb hs9 st9 y9
  obtain ⟨bi, hne, heg⟩ := ixNe' ix hix
  clear hix
  generalize ecw : decide (0 < cws l l.length) = cw at *
  generalize ecv : (!(cvs l l.length).1) = cv at *
  go_wp2_with (with_reducible refine stop_loop ?_)
  refine ⟨?_⟩
  have hnewA := heap_alloc_new w10 (.cells #[.int .i64 l.length, .int .i64 (nSeg false l), .slice none 0 0, .slice none 0 0, .int .i64 (box l).1, .int .i64 (box l).2.1, .int .i64 (box l).2.2.1, .int .i64 (box l).2.2.2, .bool false, .bool bv, .bool cv, .bool cw, .bool bi] 32)
  have R11 := (Below.heap_alloc w10 (.cells #[.int .i64 l.length, .int .i64 (nSeg false l), .slice none 0 0, .slice none 0 0, .int .i64 (box l).1, .int .i64 (box l).2.1, .int .i64 (box l).2.2.1, .int .i64 (box l).2.2.2, .bool false, .bool bv, .bool cv, .bool cw, .bool bi] 32) _ (st10.lt 0 rfl)).trans (st10.known 0 _ rfl)
  have B11 : Below w.heap.size w (w10.alloc (.cells #[.int .i64 l.length, .int .i64 (nSeg false l), .slice none 0 0, .slice none 0 0, .int .i64 (box l).1, .int .i64 (box l).2.1, .int .i64 (box l).2.2.1, .int .i64 (box l).2.2.2, .bool false, .bool bv, .bool cv, .bool cw, .bool bi] 32)) := st10.hb.alloc st10.hb.size _
  have hs11 := hs10.below ((Below.refl _ w10).alloc (Nat.le_refl _) (.cells #[.int .i64 l.length, .int .i64 (nSeg false l), .slice none 0 0, .slice none 0 0, .int .i64 (box l).1, .int .i64 (box l).2.1, .int .i64 (box l).2.2.1, .int .i64 (box l).2.2.2, .bool false, .bool bv, .bool cv, .bool cw, .bool bi] 32))
  have z11 : (w10.alloc (.cells #[.int .i64 l.length, .int .i64 (nSeg false l), .slice none 0 0, .slice none 0 0, .int .i64 (box l).1, .int .i64 (box l).2.1, .int .i64 (box l).2.2.1, .int .i64 (box l).2.2.2, .bool false, .bool bv, .bool cv, .bool cw, .bool bi] 32)).heap.size = w10.heap.size + 1 := by simp
  generalize w10.alloc (.cells #[.int .i64 l.length, .int .i64 (nSeg false l), .slice none 0 0, .slice none 0 0, .int .i64 (box l).1, .int .i64 (box l).2.1, .int .i64 (box l).2.2.1, .int .i64 (box l).2.2.2, .bool false, .bool bv, .bool cv, .bool cw, .bool bi] 32) = w11 at *
  generalize hb10 : w10.heap.size = b10 at *
  clear st10 hs10 hne heg
  have hlb : w.heap.size < b10 := by omega
  go_loopw [11] (fun v11 wr => ∃ k : Nat, k ≤ l.length ∧ v11 = .int .i64 k ∧ ∃ vp : Value, wr.ownsRow (b10 + 1) 29 2 vp k (cellsP (l.take k)) ∧ wr.heap[b10]? = some (.cells #[.int .i64 l.length, .int .i64 (nSeg false l), vp, .slice none 0 0, .int .i64 (box l).1, .int .i64 (box l).2.1, .int .i64 (box l).2.2.1, .int .i64 (box l).2.2.2, .bool false, .bool bv, .bool cv, .bool cw, .bool bi] 32 (0, 0)) ∧ wr.heap[w.heap.size]? = some (.cells #[.int .i64 0, .int .i64 0, .slice none 0 0, .slice none 0 0, .int .i64 0, .int .i64 0, .int .i64 0, .int .i64 0, .bool false, .bool false, .bool false, .bool false, .bool false] 32 (0, 0)) ∧ SkP K false l 95 (w.heap.size + 1) w1.heap.size b wr ∧ Below w.heap.size w wr ∧ b10 + 1 ≤ wr.heap.size) (fun v _ => l.length - (intOf v).toNat)
  case atStart => exact ⟨0, Nat.zero_le _, rfl, .slice none 0 0, World.ownsRow_nil _ _ _ _, hnewA, R11, hs11, B11, by omega⟩
  case round =>
    obtain ⟨k, hk, rfl, vp, o1, G5, R5, S5, B5, Z5⟩ := hrel
    clear hnewA R11 hs11 B11 z11
    go_wp2_with (first | (go_at_call 103; refine JR.StopM.out ?_) | (with_reducible refine stop_region ?_))
    refine ⟨?_⟩
    refine (msNum S5).mono ?_
    rintro e w5 ⟨rfl, hb5⟩
    have G6 := (hb5.block b10 (lt_of_some G5)).trans G5
    have R6 := (hb5.block w.heap.size (lt_of_some R5)).trans R5
    have S6 := S5.below hb5
    have O1 := o1.kept (Ext.grown hb5 none) (own_no _)
    have B6 : Below w.heap.size w w5 := B5.trans (hb5.mono B5.size)
    have Z6 : b10 + 1 ≤ w5.heap.size := Nat.le_trans Z5 hb5.size
    clear hb5 G5 R5 o1 B5 Z5 S5
    rcases Nat.lt_or_ge k l.length with hlt | hge
    · have hp := at_get hlt
      have hpb := at_bnd hbd k
      obtain ⟨pb1, pb2⟩ := hpb
      generalize at' l k = p at *
      have hlt' : (k : Int) < (l.length : Int) := by omega
      have hfg := fun g (hg : vp.ownBlock = some g) => O1.lt g hg
      have hnb : b10 ∉ vp.ownBlock.toList := by intro hm; simp at hm; have := (hfg _ hm).1; omega
      have hnr : w.heap.size ∉ b10 :: vp.ownBlock.toList := by intro hm; simp at hm; rcases hm with hm | hm; omega; have := (hfg _ hm).1; omega
      have hnS : ∀ j, j < w1.heap.size → j ∉ b10 :: vp.ownBlock.toList := by intro j hj hm; simp at hm; rcases hm with hm | hm; omega; have := (hfg _ hm).1; omega
      obtain ⟨i25, hi, hz0, hz1, hz2⟩ := info_parts infoP
      go_wp2_with (with_reducible refine stop_region ?_)
      refine ⟨?_⟩
      refine wp_region_K (b10 :: vp.ownBlock.toList) [.val (.pointer (some ⟨b10, 2, none⟩)), .val vp, .val (.iface 84 (.pointer (some ⟨b, 0, none⟩))), .val (.int .i64 k), .val (.agg #[fl (fb p.1), fl (fb p.2)]), .val (.agg #[.int .i64 p.1, .int .i64 p.2]),
          .slc 29 #[.int .i64 p.1, .int .i64 p.2], .app vp k (cellsP (l.take k)) (b10 + 1) 29 2 (k + 1) (cellsP (l.take k) ++ [.int .i64 p.1, .int .i64 p.2]), .val (.pointer (some ⟨b10, 2, none⟩)), .turnS b10 #[.int .i64 l.length, .int .i64 (nSeg false l), vp, .slice none 0 0, .int .i64 (box l).1, .int .i64 (box l).2.1, .int .i64 (box l).2.2.1, .int .i64 (box l).2.2.2, .bool false, .bool bv, .bool cv, .bool cw, .bool bi] 2 51 32]
        [[.ini 10], [.frm 0 44, .til 9], [.ini 9], [.ini 11], [.frm 2 46, .frm 3 47], [.frm 4 48], [.frm 5 49], [.frm 1 45, .frm 6 50, .til 7], [.ini 10], [.frm 8 52, .frm 7 51, .til 9]]
        mixed (by kernel_rfl) (by kernel_rfl) (allPre_of ⟨trivial, trivial, trivial, trivial, trivial, trivial, trivial, O1, trivial, G6, trivial⟩)
        ⟨OpOk.quiet rfl ?_, OpOk.quiet rfl ?_, OpOk.quiet rfl ?_, OpOk.quiet rfl ?_, OpOk.call rfl ?_, OpOk.call rfl ?_, slc_run rfl ?_,
         OpOk.app (inf := i25) rfl rfl Try.underlying22 hi hz0 hz1 hz2 rfl (by decide) rfl (by intro u hu; simp at hu; rcases hu with rfl | rfl <;> rfl) (by unfold maxLen; omega) (by omega) Z6 (fun _ hG => hG.size) (fun b hb => (hfg b hb).2)
           (fun b hb => ⟨row_still rfl, row_still rfl, row_still rfl, row_still rfl, row_still rfl, row_still rfl, row_none rfl (fun h => (nomatch h)), row_self rfl, row_still rfl, row_turnS (by have := (hfg b hb).1; omega), trivial⟩)
           (fun b hb => oldFree_of ⟨.inr (fun h => (nomatch h)), .inr (fun h => (nomatch h)), .inr (fun h => (nomatch h)), .inr (fun h => (nomatch h)), .inr (fun h => (nomatch h)), .inr (fun h => (nomatch h)), .inr (fun h => (nomatch h)), .inl rfl, .inr (fun h => (nomatch h)), .inr (by have := (hfg b hb).1; simp [Ent.turnS]; omega), trivial⟩)
           ?_ (fun _ b _ hb h => Keep.setRow h (.inr (by simp [hb]))), OpOk.quiet rfl ?_,
         OpOk.turnS rfl rfl (lt_of_some G6) ⟨row_still rfl, row_still rfl, row_still rfl, row_still rfl, row_still rfl, row_still rfl, row_none rfl (fun h => (nomatch h)), row_none rfl hnb, row_still rfl, row_self rfl, trivial⟩
           (oldFree_of ⟨.inr (fun h => (nomatch h)), .inr (fun h => (nomatch h)), .inr (fun h => (nomatch h)), .inr (fun h => (nomatch h)), .inr (fun h => (nomatch h)), .inr (fun h => (nomatch h)), .inr (fun h => (nomatch h)), .inr hnb, .inr (fun h => (nomatch h)), .inl rfl, trivial⟩)
           (by kernel_rfl) (by simp) ?_ (fun _ _ h => Keep.setRow h (.inr (by simp))), trivial⟩ ?_
      · intro a u _ hf
        simp [facts, Need.fact, Act.eval] at hf
        go_simp
      · intro a u _ hf
        obtain ⟨⟨_, _, f1⟩, f2, -⟩ := hf
        have f1' : a.eval (.tmp 44) = .pointer (some ⟨b10, 2, none⟩) := f1
        have c11 := cellAt (show u.heap[b10]? = some (.cells #[.int .i64 l.length, .int .i64 (nSeg false l), vp, .slice none 0 0, .int .i64 (box l).1, .int .i64 (box l).2.1, .int .i64 (box l).2.2.1, .int .i64 (box l).2.2.2, .bool false, .bool bv, .bool cv, .bool cw, .bool bi] 32 (0, 0)) from f2) 2
        simp only [List.getElem?_toArray, List.getElem?_cons_zero, List.getElem?_cons_succ] at c11
        clear f1 f2
        simp [Act.eval] at f1'
        go_simp
      · intro a u _ hf
        simp [facts, Need.fact, Act.eval] at hf
        go_simp
      · intro a u _ hf
        simp [facts, Need.fact, Act.eval] at hf
        go_simp
      · intro a u hG hf
        simp [facts, Need.fact, Ent.val, Act.eval] at hf
        have S7 := S6.keep fun j h1 h2 h3 => hG.block j h3 (hnS j h2)
        refine ⟨_, _, by go_simp, (msPoint S7 k p hp (by omega)).mono ?_⟩
        rintro e w' ⟨rfl, hb⟩
        exact ⟨_, rfl, hb, rfl⟩
      · intro a u _ hf
        simp [facts, Need.fact, Ent.val, Act.eval] at hf
        refine ⟨_, _, by go_simp, (from_c (fb_rep p.1 (by omega)) (fb_rep p.2 (by omega)) _).mono ?_⟩
        rintro e w' ⟨rfl, hb⟩
        exact ⟨_, rfl, hb, rfl⟩
      · intro a u _ hf
        simp [facts, Need.fact, Ent.val, Act.eval] at hf
        go_simp
      · intro a u _ hf
        obtain ⟨⟨_, _, f1⟩, ⟨_, _, b, f2, _, _, f3⟩, f4, -⟩ := hf
        exact ⟨f1, f4, ⟨b, 0, none⟩, 1, f2, row_cells f3⟩
      · intro a u _ hf
        simp [facts, Need.fact, Act.eval] at hf
        go_simp
      · intro a u _ hf
        obtain ⟨⟨_, _, f1⟩, ⟨_, _, f2, f5⟩, f4, -⟩ := hf
        exact ⟨f1, own_one f2, f4⟩
      · intro uu l' h wc hK hE hI hD
        obtain ⟨v0, v1, v2, v3, v4, v5, ⟨b6, v6, -, -, -⟩, ⟨o7, -⟩, v8, e9, -⟩ := hE
        replace v0 : uu 0 = .pointer (some ⟨b10, 2, none⟩) := v0
        replace v1 : uu 1 = vp := v1
        replace v2 : uu 2 = .iface 84 (.pointer (some ⟨b, 0, none⟩)) := v2
        replace v3 : uu 3 = .int .i64 k := v3
        replace v4 : uu 4 = .agg #[fl (fb p.1), fl (fb p.2)] := v4
        replace v5 : uu 5 = .agg #[.int .i64 p.1, .int .i64 p.2] := v5
        replace v8 : uu 8 = .pointer (some ⟨b10, 2, none⟩) := v8
        simp [Ent.turnS, allPut, Act.put, Act.eval, Array.setIfInBounds] at e9
        have R' := (hK.block w.heap.size (lt_of_some R6) hnr).trans R6
        have S' := S6.keep fun j h1 h2 h3 => hK.block j h3 (hnS j h2)
        have B' := Keep.belowX (B := w.heap.size) hK B6 B6.size (by intro x hx; simp at hx; rcases hx with hx | hx; omega; have := (hfg _ hx).1; omega)
        have Z' : b10 + 1 ≤ wc.heap.size := Nat.le_trans Z6 hK.size
        rw [← cellsP_snoc l k p hp] at o7
        simp only [allPut, Act.put, v0, v1, v2, v3, v4, v5, v6, v8]
        generalize uu 7 = v7 at *
        clear v0 v1 v2 v3 v4 v5 v6 v8 hK hI hD G6 R6 S6 O1 B6 Z6 hfg hnb hnr hnS
        go_wp2
        go_roundw
        case rel => exact ⟨k + 1, by omega, by go_num, v7, o7, e9, R', S', B', Z'⟩
        case measure => simp [intOf]; omega
    · have hk5 : k = l.length := by omega
      subst hk5
      rw [List.take_length] at O1
      obtain ⟨g5, cp, rfl⟩ := own_slice O1 (by omega)
      have Q6 := SlR.own O1 (Nat.le_refl _)
      obtain ⟨b12, hb12⟩ : ∃ b12, b12 = w5.heap.size := ⟨_, rfl⟩
      have hbq : b10 + 1 ≤ b12 := by omega
      rw [← hb12] at Q6
      clear O1
      go_wp2_with (with_reducible refine stop_loop ?_)
      refine ⟨?_⟩
      go_loopw [12] (fun v12 wr => ∃ k : Nat, k ≤ nSeg false l ∧ v12 = .int .i64 k ∧ ∃ (vs : Value) (xs : List Value), wr.ownsRow b12 30 4 vs k xs ∧ wr.heap[b10]? = some (.cells #[.int .i64 l.length, .int .i64 (nSeg false l), .slice (some g5) l.length cp, vs, .int .i64 (box l).1, .int .i64 (box l).2.1, .int .i64 (box l).2.2.1, .int .i64 (box l).2.2.2, .bool false, .bool bv, .bool cv, .bool cw, .bool bi] 32 (0, 0)) ∧ wr.heap[w.heap.size]? = some (.cells #[.int .i64 0, .int .i64 0, .slice none 0 0, .slice none 0 0, .int .i64 0, .int .i64 0, .int .i64 0, .int .i64 0, .bool false, .bool false, .bool false, .bool false, .bool false] 32 (0, 0)) ∧ SkP K false l 95 (w.heap.size + 1) w1.heap.size b wr ∧ Below w.heap.size w wr ∧ b12 ≤ wr.heap.size ∧ SlR (b10 + 1) b12 wr (.slice (some g5) l.length cp) l) (fun v _ => nSeg false l - (intOf v).toNat)
      case atStart => exact ⟨0, Nat.zero_le _, rfl, .slice none 0 0, [], World.ownsRow_nil _ _ _ _, G6, R6, S6, B6, by omega, Q6⟩
      case round =>
        obtain ⟨k, hk, rfl, vs, xs, o1, G5, R5, S5, B5, Z5, Q5⟩ := hrel
        clear G6 R6 S6 B6 Z6 Q6 hb12
        go_wp2_with (first | (go_at_call 48; refine JR.StopM.out ?_) | (with_reducible refine stop_region ?_))
        refine ⟨?_⟩
        refine (msNumS S5 (by omega) h2l hbd).mono ?_
        rintro e w6 ⟨rfl, hb5⟩
        have G6 := (hb5.block b10 (lt_of_some G5)).trans G5
        have R6 := (hb5.block w.heap.size (lt_of_some R5)).trans R5
        have S6 := S5.below hb5
        have O1 := o1.kept (Ext.grown hb5 none) (own_no _)
        have B6 : Below w.heap.size w w6 := B5.trans (hb5.mono B5.size)
        have Z6 : b12 ≤ w6.heap.size := Nat.le_trans Z5 hb5.size
        have Q6 : SlR (b10 + 1) b12 w6 (.slice (some g5) l.length cp) l := Q5.keep fun j h1 h2 => hb5.block j (by omega)
        clear hb5 G5 R5 o1 B5 Z5 S5 Q5
        rcases Nat.lt_or_ge k (nSeg false l) with hlt | hge
        · obtain ⟨g1, g2⟩ := seg_pts (closed := false) (l := l) (k := k) hlt
          have a1 := at_get g1
          have a2 := at_get g2
          obtain ⟨pb1, pb2⟩ := at_bnd hbd k
          obtain ⟨qb1, qb2⟩ := at_bnd hbd (if k = l.length - 1 then 0 else k + 1)
          have hsg := msSeg S6 (by omega) k _ _ a1 a2
          generalize at' l k = p at *
          generalize at' l (if k = l.length - 1 then 0 else k + 1) = q at *
          have hlt' : (k : Int) < (nSeg false l : Int) := by omega
          have hns := nSeg_le false l
          clear a1 a2 g1 g2
          go_wp2_with (first | (go_at_call 49; refine JR.StopM.out ?_) | (with_reducible refine stop_region ?_))
          refine ⟨?_⟩
          refine hsg.mono ?_
          rintro e w7 ⟨rfl, hb6⟩
          have G7 := (hb6.block b10 (lt_of_some G6)).trans G6
          have R7 := (hb6.block w.heap.size (lt_of_some R6)).trans R6
          have S7 := S6.below hb6
          have O2 := O1.kept (Ext.grown hb6 none) (own_no _)
          have B7 : Below w.heap.size w w7 := B6.trans (hb6.mono B6.size)
          have Z7 : b12 ≤ w7.heap.size := Nat.le_trans Z6 hb6.size
          have Q7 : SlR (b10 + 1) b12 w7 (.slice (some g5) l.length cp) l := Q6.keep fun j h1 h2 => hb6.block j (by omega)
          clear hb6 G6 R6 O1 B6 Z6 S6 Q6 hsg
          go_wp2_with (with_reducible refine stop_region ?_)
          refine ⟨?_⟩
          have hfg := fun g (hg : vs.ownBlock = some g) => O2.lt g hg
          have hnb : b10 ∉ vs.ownBlock.toList := by intro hm; simp at hm; have := (hfg _ hm).1; omega
          have hnr : w.heap.size ∉ b10 :: vs.ownBlock.toList := by intro hm; simp at hm; rcases hm with hm | hm; omega; have := (hfg _ hm).1; omega
          have hnS : ∀ j, j < w1.heap.size → j ∉ b10 :: vs.ownBlock.toList := by intro j hj hm; simp at hm; rcases hm with hm | hm; omega; have := (hfg _ hm).1; omega
          have hns : w7.heap.size ∉ b10 :: vs.ownBlock.toList := by intro hm; simp at hm; rcases hm with hm | hm; omega; have := (hfg _ hm).2; omega
          have hnq : ∀ j, b10 + 1 ≤ j → j < b12 → j ∉ b10 :: vs.ownBlock.toList := by intro j h1 h2 hm; simp at hm; rcases hm with hm | hm; omega; have := (hfg _ hm).1; omega
          have hsz8 : (w7.alloc (.cells #[fl (fb p.1), fl (fb p.2), fl (fb q.1), fl (fb q.2)] 64)).heap.size = w7.heap.size + 1 := by simp
          have G8 : (w7.alloc (.cells #[fl (fb p.1), fl (fb p.2), fl (fb q.1), fl (fb q.2)] 64)).heap[b10]? = _ := (Below.heap_alloc w7 _ _ (lt_of_some G7)).trans G7
          have R8 : (w7.alloc (.cells #[fl (fb p.1), fl (fb p.2), fl (fb q.1), fl (fb q.2)] 64)).heap[w.heap.size]? = _ := (Below.heap_alloc w7 _ _ (lt_of_some R7)).trans R7
          have hbA : Below w7.heap.size w7 (w7.alloc (.cells #[fl (fb p.1), fl (fb p.2), fl (fb q.1), fl (fb q.2)] 64)) := (Below.refl _ w7).alloc (Nat.le_refl _) _
          have S8 := S7.below hbA
          have V8 := heap_alloc_new w7 (.cells #[fl (fb p.1), fl (fb p.2), fl (fb q.1), fl (fb q.2)] 64)
          have O3 := O2.alloc (.cells #[fl (fb p.1), fl (fb p.2), fl (fb q.1), fl (fb q.2)] 64)
          have B8 : Below w.heap.size w (w7.alloc (.cells #[fl (fb p.1), fl (fb p.2), fl (fb q.1), fl (fb q.2)] 64)) := B7.alloc B7.size _
          have Q8 : SlR (b10 + 1) b12 (w7.alloc (.cells #[fl (fb p.1), fl (fb p.2), fl (fb q.1), fl (fb q.2)] 64)) (.slice (some g5) l.length cp) l := Q7.keep fun j h1 h2 => hbA.block j (by omega)
          have W0 := cellAt V8 0
          have W1 := cellAt V8 1
          have W2 := cellAt V8 2
          have W3 := cellAt V8 3
          simp only [List.getElem?_toArray, List.getElem?_cons_zero, List.getElem?_cons_succ] at W0 W1 W2 W3
          obtain ⟨i26, hi, hz0, hz1, hz2⟩ := info_parts infoSA
          generalize w7.alloc (.cells #[fl (fb p.1), fl (fb p.2), fl (fb q.1), fl (fb q.2)] 64) = w8 at *
          generalize hbs : w7.heap.size = bs at *
          clear G7 R7 O2 B7 S7 Q7 hbA
          refine wp_region_K (b10 :: vs.ownBlock.toList) [.val (.pointer (some ⟨b10, 3, none⟩)), .val vs, .val (.pointer (some ⟨bs, 0, none⟩)), .val (.agg #[fl (fb p.1), fl (fb p.2)]), .val (.agg #[.int .i64 p.1, .int .i64 p.2]), .val (.pointer (some ⟨bs, 2, none⟩)), .val (.agg #[fl (fb q.1), fl (fb q.2)]), .val (.agg #[.int .i64 q.1, .int .i64 q.2]), .val (.agg #[.int .i64 p.1, .int .i64 p.2, .int .i64 q.1, .int .i64 q.2]),
              .slc 30 #[.int .i64 p.1, .int .i64 p.2, .int .i64 q.1, .int .i64 q.2], .app vs k xs b12 30 4 (k + 1) (xs ++ [.int .i64 p.1, .int .i64 p.2, .int .i64 q.1, .int .i64 q.2]), .val (.pointer (some ⟨b10, 3, none⟩)), .turnS b10 #[.int .i64 l.length, .int .i64 (nSeg false l), .slice (some g5) l.length cp, vs, .int .i64 (box l).1, .int .i64 (box l).2.1, .int .i64 (box l).2.2.1, .int .i64 (box l).2.2.2, .bool false, .bool bv, .bool cv, .bool cw, .bool bi] 3 72 32]
            [[.ini 10], [.frm 0 62, .til 12], [.ini 13], [.frm 2 64], [.frm 3 65], [.ini 13], [.frm 5 67], [.frm 6 68], [.frm 4 66, .frm 7 69], [.frm 8 70], [.frm 1 63, .frm 9 71, .til 10], [.ini 10], [.frm 11 73, .frm 10 72, .til 12]]
            mixed (by kernel_rfl) (by kernel_rfl) (allPre_of ⟨trivial, trivial, trivial, trivial, trivial, trivial, trivial, trivial, trivial, trivial, O3, trivial, G8, trivial⟩)
            ⟨OpOk.quiet rfl ?_, OpOk.quiet rfl ?_, OpOk.quiet rfl ?_, OpOk.quiet rfl ?_, OpOk.call rfl ?_, OpOk.quiet rfl ?_, OpOk.quiet rfl ?_, OpOk.call rfl ?_, OpOk.quiet rfl ?_, slc_run rfl ?_,
             OpOk.app (inf := i26) rfl rfl Try.underlying27 hi hz0 hz1 hz2 rfl (by decide) rfl (by intro u hu; simp at hu; rcases hu with rfl | rfl | rfl | rfl <;> rfl) (by unfold maxLen; omega) (by omega) (by omega) (fun _ hG => hG.size) (fun b hb => by have := (hfg b hb).2; omega)
               (fun b hb => ⟨row_still rfl, row_still rfl, row_still rfl, row_still rfl, row_still rfl, row_still rfl, row_still rfl, row_still rfl, row_still rfl, row_none rfl (fun h => (nomatch h)), row_self rfl, row_still rfl, row_turnS (by have := (hfg b hb).1; omega), trivial⟩)
               (fun b hb => oldFree_of ⟨.inr (fun h => (nomatch h)), .inr (fun h => (nomatch h)), .inr (fun h => (nomatch h)), .inr (fun h => (nomatch h)), .inr (fun h => (nomatch h)), .inr (fun h => (nomatch h)), .inr (fun h => (nomatch h)), .inr (fun h => (nomatch h)), .inr (fun h => (nomatch h)), .inr (fun h => (nomatch h)), .inl rfl, .inr (fun h => (nomatch h)), .inr (by have := (hfg b hb).1; simp [Ent.turnS]; omega), trivial⟩)
               ?_ (fun _ b _ hb h => Keep.setRow h (.inr (by simp [hb]))), OpOk.quiet rfl ?_,
             OpOk.turnS rfl rfl (lt_of_some G8) ⟨row_still rfl, row_still rfl, row_still rfl, row_still rfl, row_still rfl, row_still rfl, row_still rfl, row_still rfl, row_still rfl, row_none rfl (fun h => (nomatch h)), row_none rfl hnb, row_still rfl, row_self rfl, trivial⟩
               (oldFree_of ⟨.inr (fun h => (nomatch h)), .inr (fun h => (nomatch h)), .inr (fun h => (nomatch h)), .inr (fun h => (nomatch h)), .inr (fun h => (nomatch h)), .inr (fun h => (nomatch h)), .inr (fun h => (nomatch h)), .inr (fun h => (nomatch h)), .inr (fun h => (nomatch h)), .inr (fun h => (nomatch h)), .inr hnb, .inr (fun h => (nomatch h)), .inl rfl, trivial⟩)
               (by kernel_rfl) (by simp) ?_ (fun _ _ h => Keep.setRow h (.inr (by simp))), trivial⟩ ?_
          · intro a u _ hf
            simp [facts, Need.fact, Act.eval] at hf
            go_simp
          · intro a u _ hf
            obtain ⟨⟨_, _, f1⟩, f2, -⟩ := hf
            have f1' : a.eval (.tmp 62) = .pointer (some ⟨b10, 3, none⟩) := f1
            have c11 := cellAt (show u.heap[b10]? = some (.cells #[.int .i64 l.length, .int .i64 (nSeg false l), .slice (some g5) l.length cp, vs, .int .i64 (box l).1, .int .i64 (box l).2.1, .int .i64 (box l).2.2.1, .int .i64 (box l).2.2.2, .bool false, .bool bv, .bool cv, .bool cw, .bool bi] 32 (0, 0)) from f2) 3
            simp only [List.getElem?_toArray, List.getElem?_cons_zero, List.getElem?_cons_succ] at c11
            clear f1 f2
            simp [Act.eval] at f1'
            go_simp
          · intro a u _ hf
            simp [facts, Need.fact, Act.eval] at hf
            go_simp
          · intro a u hG hf
            simp [facts, Need.fact, Ent.val, Act.eval] at hf
            have w0' := (hG.cell (p := ⟨bs, 0, none⟩) (lt_of_some V8) hns).trans W0
            have w1' := (hG.cell (p := ⟨bs, 1, none⟩) (lt_of_some V8) hns).trans W1
            go_simp
          · intro a u _ hf
            simp [facts, Need.fact, Ent.val, Act.eval] at hf
            refine ⟨_, _, by go_simp, (from_c (fb_rep p.1 (by omega)) (fb_rep p.2 (by omega)) _).mono ?_⟩
            rintro e w' ⟨rfl, hb⟩
            exact ⟨_, rfl, hb, rfl⟩
          · intro a u _ hf
            simp [facts, Need.fact, Act.eval] at hf
            go_simp
          · intro a u hG hf
            simp [facts, Need.fact, Ent.val, Act.eval] at hf
            have w0' := (hG.cell (p := ⟨bs, 2, none⟩) (lt_of_some V8) hns).trans W2
            have w1' := (hG.cell (p := ⟨bs, 3, none⟩) (lt_of_some V8) hns).trans W3
            go_simp
          · intro a u _ hf
            simp [facts, Need.fact, Ent.val, Act.eval] at hf
            refine ⟨_, _, by go_simp, (from_c (fb_rep q.1 (by omega)) (fb_rep q.2 (by omega)) _).mono ?_⟩
            rintro e w' ⟨rfl, hb⟩
            exact ⟨_, rfl, hb, rfl⟩
          · intro a u _ hf
            simp [facts, Need.fact, Ent.val, Act.eval] at hf
            go_simp
          · intro a u _ hf
            simp [facts, Need.fact, Ent.val, Act.eval] at hf
            go_simp
          · intro a u _ hf
            obtain ⟨⟨_, _, f1⟩, ⟨_, _, b, f2, _, _, f3⟩, f4, -⟩ := hf
            exact ⟨f1, f4, ⟨b, 0, none⟩, 1, f2, row_cells f3⟩
          · intro a u _ hf
            simp [facts, Need.fact, Act.eval] at hf
            go_simp
          · intro a u _ hf
            obtain ⟨⟨_, _, f1⟩, ⟨_, _, f2, f5⟩, f4, -⟩ := hf
            exact ⟨f1, own_one f2, f4⟩
          · intro uu l' h wc hK hE hI hD
            obtain ⟨v0, v1, v2, v3, v4, v5, v6, v7, v8, ⟨b6, v9, -, -, -⟩, ⟨o7, -⟩, v11, e9, -⟩ := hE
            replace v0 : uu 0 = .pointer (some ⟨b10, 3, none⟩) := v0
            replace v1 : uu 1 = vs := v1
            replace v2 : uu 2 = .pointer (some ⟨bs, 0, none⟩) := v2
            replace v3 : uu 3 = .agg #[fl (fb p.1), fl (fb p.2)] := v3
            replace v4 : uu 4 = .agg #[.int .i64 p.1, .int .i64 p.2] := v4
            replace v5 : uu 5 = .pointer (some ⟨bs, 2, none⟩) := v5
            replace v6 : uu 6 = .agg #[fl (fb q.1), fl (fb q.2)] := v6
            replace v7 : uu 7 = .agg #[.int .i64 q.1, .int .i64 q.2] := v7
            replace v8 : uu 8 = .agg #[.int .i64 p.1, .int .i64 p.2, .int .i64 q.1, .int .i64 q.2] := v8
            replace v11 : uu 11 = .pointer (some ⟨b10, 3, none⟩) := v11
            simp [Ent.turnS, allPut, Act.put, Act.eval, Array.setIfInBounds] at e9
            have R' := (hK.block w.heap.size (lt_of_some R8) hnr).trans R8
            have S' := S8.keep fun j h1 h2 h3 => hK.block j h3 (hnS j h2)
            have B' := Keep.belowX (B := w.heap.size) hK B8 B8.size (by intro x hx; simp at hx; rcases hx with hx | hx; omega; have := (hfg _ hx).1; omega)
            have Z' : b12 ≤ wc.heap.size := Nat.le_trans (by omega) hK.size
            have Q' : SlR (b10 + 1) b12 wc (.slice (some g5) l.length cp) l := Q8.keep fun j h1 h2 => hK.block j (by omega) (hnq j h1 h2)
            simp only [allPut, Act.put, v0, v1, v2, v3, v4, v5, v6, v7, v8, v9, v11]
            generalize uu 10 = v10 at *
            clear v0 v1 v2 v3 v4 v5 v6 v7 v8 v9 v11 hK hI hD G8 R8 S8 O3 B8 Z7 Q8 hfg hnb hnr hnS hns hnq W0 W1 W2 W3
            go_wp2
            go_roundw
            case rel => exact ⟨k + 1, by omega, by go_num, v10, _, o7, e9, R', S', B', Z', Q'⟩
            case measure => simp [intOf]; omega
        · have hk6 : k = nSeg false l := by omega
          subst hk6
          obtain ⟨B9, cB, rfl⟩ := own_slc O1
          have st := (((⟨fun i x h => by simp at h, B6⟩ : Blk w w6 []).add R6).add G6)
          have hne : w.heap.size ≠ b10 := by omega
          have hns := nSeg_le false l
          have hnl : ¬ (nSeg false l : Int) < (nSeg false l : Int) := by omega
          have x0 := st.cell 0 rfl 0
          have d0 := st.cell 1 rfl 0
          have x1 := st.cell 0 rfl 1
          have d1 := st.cell 1 rfl 1
          have x2 := st.cell 0 rfl 2
          have d2 := st.cell 1 rfl 2
          have x3 := st.cell 0 rfl 3
          have d3 := st.cell 1 rfl 3
          have x4 := st.cell 0 rfl 4
          have d4 := st.cell 1 rfl 4
          have x5 := st.cell 0 rfl 5
          have d5 := st.cell 1 rfl 5
          have x6 := st.cell 0 rfl 6
          have d6 := st.cell 1 rfl 6
          have x7 := st.cell 0 rfl 7
          have d7 := st.cell 1 rfl 7
          have x8 := st.cell 0 rfl 8
          have d8 := st.cell 1 rfl 8
          have x9 := st.cell 0 rfl 9
          have d9 := st.cell 1 rfl 9
          have x10 := st.cell 0 rfl 10
          have d10 := st.cell 1 rfl 10
          have x11 := st.cell 0 rfl 11
          have d11 := st.cell 1 rfl 11
          have x12 := st.cell 0 rfl 12
          have d12 := st.cell 1 rfl 12
          have xf := fun o => st.frozen 0 rfl o
          have df := fun o => st.frozen 1 rfl o
          simp only [List.getElem?_toArray, List.getElem?_cons_zero, List.getElem?_cons_succ] at x0 d0 x1 d1 x2 d2 x3 d3 x4 d4 x5 d5 x6 d6 x7 d7 x8 d8 x9 d9 x10 d10 x11 d11 x12 d12
          clear G6 R6 S6 O1
          go_wp2
          refine bodyPost_ret (v := .agg #[.int .i64 l.length, .int .i64 (nSeg false l), .slice (some g5) l.length cp, .slice B9 (nSeg false l) cB, .int .i64 (box l).1, .int .i64 (box l).2.1, .int .i64 (box l).2.2.1, .int .i64 (box l).2.2.2, .bool false, .bool bv, .bool cv, .bool cw, .bool bi]) (by simp [results, Try.results8, go_sem, d0, d1, d2, d3, d4, d5, d6, d7, d8, d9, d10, d11, d12]) rfl ⟨some g5, cp, B9, nSeg false l, cB, bv, bi, by subst ecw ecv; rfl, ?_, ?_⟩
          · refine SlR.wide (SlR.keep (fun j h1 h2 => ?_) Q6) (by omega) (by simp; omega)
            iterate 13 refine (Below.heap_setCell _ _ _ _ (by show j ≠ w.heap.size; omega)).trans ?_
            rfl
          · iterate 13 refine Below.setCell ?_ (by show w.heap.size ≤ w.heap.size; exact Nat.le_refl _) _
            exact st.hb

end Go.Proofs.Ytkldjceopjfjhaa
