import Derived.Test.YtlpibeloedfbdaaGreatSr
import Derived.Test.YtlpibeloedfbdaaGreatQA
import Derived.Test.YtlpibeloedfbdaaGreatQS
set_option linter.unusedSimpArgs false
set_option linter.unusedVariables false
/-! buildIndex, of few segments, exactly. -/
namespace PF
theorem seg_pts {closed : Bool} {l : List (Int × Int)} {k : Nat} (hk : k < Go.Proofs.YtlpibeloedfbdaaGreat.nSeg closed l) : k < l.length ∧ (if k = l.length - 1 then 0 else k + 1) < l.length := by
  unfold Go.Proofs.YtlpibeloedfbdaaGreat.nSeg at hk
  split at hk
  · split at hk
    · omega
    · split at hk <;> split <;> omega
  · split <;> omega
/-- the point behind point k -/
def nxp (l : List (Int × Int)) (k : Nat) : Int × Int := at' l (if k = l.length - 1 then 0 else k + 1)
/-- the rectangle of segment k -/
def sgx (l : List (Int × Int)) (k : Nat) : Int × Int × Int × Int := (min (at' l k).1 (nxp l k).1, min (at' l k).2 (nxp l k).2, max (at' l k).1 (nxp l k).1, max (at' l k).2 (nxp l k).2)
/-- the rectangle of the first segments -/
def rbx (l : List (Int × Int)) : Nat → Int × Int × Int × Int
  | 0 => (0, 0, 0, 0)
  | n + 1 => (ifz n (sgx l n).1 (min (rbx l n).1 (sgx l n).1), ifz n (sgx l n).2.1 (min (rbx l n).2.1 (sgx l n).2.1), ifz n (sgx l n).2.2.1 (max (rbx l n).2.2.1 (sgx l n).2.2.1), ifz n (sgx l n).2.2.2 (max (rbx l n).2.2.2 (sgx l n).2.2.2))
def BdR (r : Int × Int × Int × Int) : Prop := Bd4 r.1 r.2.1 r.2.2.1 r.2.2.2
theorem sgx_bd {l : List (Int × Int)} (h : ∀ p ∈ l, Bnd p) (k : Nat) : BdR (sgx l k) := by
  have h1 := at_bnd h k
  have h2 : Bnd (nxp l k) := at_bnd h _
  obtain ⟨a, b⟩ := h1
  obtain ⟨c, d⟩ := h2
  unfold BdR Bd4 sgx
  simp only
  omega
theorem rbx_bd {l : List (Int × Int)} (h : ∀ p ∈ l, Bnd p) : ∀ n, BdR (rbx l n) := by
  intro n
  induction n with
  | zero => unfold BdR Bd4 rbx; simp
  | succ n ih =>
    have h1 := sgx_bd h n
    unfold BdR Bd4 at *
    simp only [rbx, ifz]
    split <;> omega
theorem min_fb (a b : Int) : (if b < a then fb b else fb a) = fb (min a b) := by
  split
  · rw [show min a b = b from by omega]
  · rw [show min a b = a from by omega]
theorem max_fb (a b : Int) : (if b < a then fb a else fb b) = fb (max a b) := by
  split
  · rw [show max a b = a from by omega]
  · rw [show max a b = b from by omega]
/-- the index behind its head -/
def ixrest (K : Nat) (l : List (Int × Int)) (n : Nat) : List Nat := if K = 1 then tby (rbx l n).1 (rbx l n).2.1 (rbx l n).2.2.1 (rbx l n).2.2.2 n else qbytes n
/-- the index' bytes -/
def ixby (K : Nat) (l : List (Int × Int)) (n : Nat) : List Nat := K :: (le4 ((ixrest K l n).length + 5) ++ ixrest K l n)
end PF
namespace Go.Proofs.YtlpibeloedfbdaaGreat
open Go.RowKit PF JR
theorem nSeg_le (closed : Bool) (l : List (Int × Int)) : nSeg closed l ≤ l.length := by
  unfold nSeg; repeat' split
  all_goals omega
theorem neNil (w : World) : (binOp .neq 20 .nilIface .nilIface).run Tryz.prog w = .ok (.bool false) w := by kernel_rfl
theorem SerB.below {w w' : World} {sb lo hi B : Nat} {closed : Bool} {l : List (Int × Int)} {ss : Array Value} (h : SerB w sb closed l lo hi ss) (hb : Below B w w') (h1 : sb < B) (h2 : hi ≤ B) : SerB w' sb closed l lo hi ss := by
  obtain ⟨h0, hs, g1, v, g2, g3⟩ := h
  exact ⟨(hb.block sb h1).trans h0, hs, g1, v, g2, g3.keep' fun b _ hb2 _ => hb.block b (by omega)⟩
theorem byt_five {w : World} {g base a : Nat} (h : w.heap[g]? = some (.cells #[.int .u8 a, .int .u8 0, .int .u8 0, .int .u8 0, .int .u8 0] 5 (0, 0))) (hb : base ≤ g) : Bys w base (.slice (some ⟨g, 0, none⟩) 5 5) [a, 0, 0, 0, 0] :=
  ⟨rfl, .inr ⟨g, 5, _, rfl, hb, h, by simp, by unfold maxLen; omega, rfl, rfl⟩⟩
/-- what the field of the index holds; its block is from number lo up to hi -/
def IxV (K : Nat) (l : List (Int × Int)) (n lo hi : Nat) (w : World) (x : Value) : Prop :=
  (K = 0 ∧ x = .nilIface) ∨ (K ≠ 0 ∧ ∃ g, x = .iface 107 (.slice (some ⟨g, 0, none⟩) (ixby K l n).length (ixby K l n).length) ∧ lo ≤ g ∧ g < hi ∧ w.heap[g]? = some (.cells ((ixby K l n).map byv).toArray 5 (0, 0)))
theorem IxV.keep {K : Nat} {l : List (Int × Int)} {n lo hi : Nat} {w w' : World} {x : Value} (h : IxV K l n lo hi w x) (hk : ∀ k, lo ≤ k → k < hi → k < w.heap.size → w'.heap[k]? = w.heap[k]?) : IxV K l n lo hi w' x := by
  rcases h with h | ⟨h0, g, h1, h2, h3, h4⟩
  · exact .inl h
  · exact .inr ⟨h0, g, h1, h2, h3, (hk g h2 h3 (lt_of_some h4)).trans h4⟩
theorem IxV.wide {K : Nat} {l : List (Int × Int)} {n lo hi lo' hi' : Nat} {w : World} {x : Value} (h : IxV K l n lo hi w x) (h1 : lo' ≤ lo) (h2 : hi ≤ hi') : IxV K l n lo' hi' w x := by
  rcases h with h | ⟨h0, g, g1, g2, g3, g4⟩
  · exact .inl h
  · exact .inr ⟨h0, g, g1, by omega, by omega, g4⟩
/-- what buildIndex leaves: the index, of the series' cells, and nothing else is another one -/
def BiP (K : Nat) (l : List (Int × Int)) (n sb : Nat) (ss : Array Value) (w : World) (e : Ending) (w' : World) : Prop :=
  e = .returned (.tuple #[]) ∧ ∃ x, IxV K l n w.heap.size w'.heap.size w' x ∧ Rw w w' sb (ss.setIfInBounds 4 x) 81
theorem bip_of {K : Nat} (hK : K ≠ 0) {l : List (Int × Int)} {n sb g base : Nat} {ss : Array Value} {w w3 w4 : World} (hsb : sb < w.heap.size) (h3 : Below w.heap.size w w3) (h4 : Below w.heap.size w3 w4) (h5 : w4.heap[sb]? = some (.cells ss 81 (0, 0)))
    (hg : base ≤ g) (hbase : w.heap.size ≤ base) (hrow : w4.heap[g]? = some (.cells ((ixby K l n).map byv).toArray 5 (0, 0))) : BiP K l n sb ss w (.returned (.tuple #[])) (w4.setCell ⟨sb, 4, none⟩ (.iface 107 (.slice (some ⟨g, 0, none⟩) (ixby K l n).length (ixby K l n).length))) := by
  have h := h3.trans h4
  have hr := (Rw.refl h5).set 4 (.iface 107 (.slice (some ⟨g, 0, none⟩) (ixby K l n).length (ixby K l n).length))
  refine ⟨rfl, _, .inr ⟨hK, g, rfl, by omega, ?_, ?_⟩, ?_⟩
  · have := lt_of_some hrow
    simpa using this
  · exact (hr.kp.block g (lt_of_some hrow) (by simp; omega)).trans hrow
  · exact ⟨hr.row, ⟨hr.kp.os.trans h.os, hr.kp.tape.trans h.tape, hr.kp.output.trans h.output, Nat.le_trans h.size hr.kp.size, fun k hk hx => (hr.kp.block k (Nat.lt_of_lt_of_le hk h.size) hx).trans (h.block k hk)⟩⟩

set_option maxRecDepth 100000 in
set_option maxHeartbeats 4000000 in
theorem bIndex1_c (sb lo hi : Nat) (closed : Bool) (l : List (Int × Int)) (ss : Array Value) (w : World) (hS : SerB w sb closed l lo hi ss) (hhi : hi ≤ w.heap.size)
    (hK : ss[3]? = some (.int .u8 1)) (h4 : ss[4]? = some .nilIface) (hl : l.length ≤ 12) (h2l : 2 ≤ l.length) (hbd : ∀ p ∈ l, p.1.natAbs ≤ 1000000 ∧ p.2.natAbs ≤ 1000000) :
    Calls Tryz.prog 43 #[.pointer (some ⟨sb, 0, none⟩)] w (BiP 1 l (nSeg closed l) sb ss w) := by
  have hnn := neNil
  have hsb := lt_of_some hS.1
  have x3 := (cellAt hS.1 3).trans hK
  have x4 := (cellAt hS.1 4).trans h4
  have hss : 5 ≤ ss.size := by have := hS.2.1; omega
  have hn := nSeg_le closed l
  have ht0 := heap_alloc_new w (.cells #[.int .i64 0, .nilIface, fl 0, fl 0, fl 0, fl 0, .int .i64 0, .slice none 0 0] 102)
  have hB0 : Below w.heap.size w (w.alloc (.cells #[.int .i64 0, .nilIface, fl 0, fl 0, fl 0, fl 0, .int .i64 0, .slice none 0 0] 102)) := (Below.refl _ _).alloc (Nat.le_refl _) _
  have hseg := nseg_c sb lo hi closed l ss _ (hS.below hB0 hsb hhi) (by omega) h2l hbd
  go_enter Tryz.func43, Tryz.ntmps43
  go_wp2_with (go_at_call 44; refine JR.StopN.out ?_)
  refine ⟨?_⟩
  refine hseg.mono ?_
  rintro e w1 ⟨rfl, hb⟩
  have hT1 : TreeS w1 w.heap.size w.heap.size 0 (rbx l 0).1 (rbx l 0).2.1 (rbx l 0).2.2.1 (rbx l 0).2.2.2 := .inl ⟨rfl, (hb.block _ (lt_of_some ht0)).trans ht0⟩
  have hB1 := hB0.trans (hb.mono hB0.size)
  clear hb ht0 hB0 hseg x3 x4 hnn
  generalize hN : nSeg closed l = N at *
  go_wp2
  go_loopw [4] (fun i wr => ∃ k : Nat, k ≤ N ∧ i = .int .i64 k ∧ TreeS wr w.heap.size w.heap.size k (rbx l k).1 (rbx l k).2.1 (rbx l k).2.2.1 (rbx l k).2.2.2 ∧ Below w.heap.size w wr) (fun i _ => N - (intOf i).toNat)
  case atStart => exact ⟨0, Nat.zero_le _, rfl, hT1, hB1⟩
  case round =>
    clear hT1 hB1
    obtain ⟨k, hkl, rfl, hT, hB⟩ := hrel
    have hs := hB.size
    have hSr := hS.below hB hsb hhi
    rcases Nat.lt_or_ge k N with hlt | hge
    · obtain ⟨g1, g2⟩ := seg_pts (closed := closed) (l := l) (k := k) (by omega)
      have a1 := at_get g1
      have a2 := at_get g2
      have m1 := hbd _ (List.mem_of_getElem? a1)
      have m2 := hbd _ (List.mem_of_getElem? a2)
      have hsg := sgat_c sb k lo hi closed l _ _ ss wr hSr (by omega) a1 a2
      have hrb := rbx_bd hbd k
      have hsx := sgx_bd hbd k
      have ers : rbx l (k + 1) = (ifz k (sgx l k).1 (min (rbx l k).1 (sgx l k).1), ifz k (sgx l k).2.1 (min (rbx l k).2.1 (sgx l k).2.1), ifz k (sgx l k).2.2.1 (max (rbx l k).2.2.1 (sgx l k).2.2.1), ifz k (sgx l k).2.2.2 (max (rbx l k).2.2.2 (sgx l k).2.2.2)) := rfl
      have esx : sgx l k = (min (at' l k).1 (nxp l k).1, min (at' l k).2 (nxp l k).2, max (at' l k).1 (nxp l k).1, max (at' l k).2 (nxp l k).2) := rfl
      generalize hpa : at' l k = pa at *
      have enx : nxp l k = at' l (if k = l.length - 1 then 0 else k + 1) := rfl
      rw [enx] at esx
      generalize hpb : at' l (if k = l.length - 1 then 0 else k + 1) = pb at *
      clear hpa hpb enx
      generalize rbx l k = rk at *
      generalize sgx l k = sk at *
      have hlt' : (k : Int) < (N : Int) := by omega
      clear a1 a2 g1 g2
      go_wp2_with (go_at_call 45; refine JR.StopN.out ?_)
      refine ⟨?_⟩
      refine hsg.mono ?_
      rintro e w2 ⟨rfl, hb2⟩
      have hT2 := hT.below hb2
      have hB2 := hB.trans (hb2.mono hs)
      clear hsg hT hb2 hSr hB hs
      go_wp2_with (go_at_call 46; refine JR.StopN.out ?_)
      refine ⟨?_⟩
      refine (sgr_c (fb_rep pa.1 (by omega)) (fb_rep pa.2 (by omega)) (fb_rep pb.1 (by omega)) (fb_rep pb.2 (by omega)) _).mono ?_
      rintro e w3 ⟨rfl, hb3⟩
      have hT3 := hT2.below hb3
      have hB3 := hB2.trans (hb3.mono hB2.size)
      have hs3 := hB3.size
      clear hT2 hb3 hB2 m1 m2
      rw [min_fb, min_fb, max_fb, max_fb, show min pa.1 pb.1 = sk.1 from by rw [esx], show min pa.2 pb.2 = sk.2.1 from by rw [esx], show max pa.1 pb.1 = sk.2.2.1 from by rw [esx], show max pa.2 pb.2 = sk.2.2.2 from by rw [esx]]
      clear esx
      obtain ⟨s0, s1, s2, s3⟩ := sk
      obtain ⟨r0, r1, r2, r3⟩ := rk
      simp only at hT3 hrb hsx ers ⊢
      generalize hq0 : fb s0 = q0
      generalize hq1 : fb s1 = q1
      generalize hq2 : fb s2 = q2
      generalize hq3 : fb s3 = q3
      go_wp2_with (go_at_call 47; refine JR.StopN.out ?_)
      refine ⟨?_⟩
      have st := (((Blk.nil w3).push rfl #[fl q0, fl q1, fl q2, fl q3] 52).push (b := w3.heap.size + 1) (by simp) #[fl q0, fl q1] 39).push (b := w3.heap.size + 1 + 1) (by simp) #[fl q2, fl q3] 39
      have c0 := st.cell 1 rfl 0
      have c1 := st.cell 1 rfl 1
      have c2 := st.cell 0 rfl 0
      have c3 := st.cell 0 rfl 1
      have hbx := st.hb
      have hT4 := hT3.below hbx
      have hB4 := hB3.trans (hbx.mono hs3)
      clear st hT3 hB3 hbx
      subst hq0 hq1 hq2 hq3
      refine (tInsert_c w.heap.size k w.heap.size _ 0 _ _ 0 _ r0 r1 r2 r3 s0 s1 s2 s3 hrb hsx _ hT4 (by omega) c0 c1 c2 c3 (Nat.le_refl _) hB4.size).mono ?_
      rintro e w5 ⟨rfl, hT5, hB5⟩
      have hB6 := hB4.trans hB5
      clear hT4 hB4 hB5 c0 c1 c2 c3
      go_wp2
      go_roundw
      case rel => exact ⟨k + 1, by omega, by go_num, by rw [ers]; exact hT5, hB6⟩
      case measure => simp [intOf]; omega
    · have hkk : k = N := by omega
      subst hkk
      have hnl : ¬ (k : Int) < (k : Int) := by omega
      have st := (Blk.nil wr).push rfl #[.int .u8 1, .int .u8 0, .int .u8 0, .int .u8 0, .int .u8 0] 5
      have hb5 := byt_five (a := 1) (st.known 0 _ rfl) (Nat.le_refl wr.heap.size)
      have hcm := tcompress_c w.heap.size w.heap.size k _ _ _ _ (rbx_bd hbd k) _ _ wr _ hT (by omega) st.hb hb5 (by decide)
      clear st hb5 hbd
      go_wp2_with (go_at_call 49; refine JR.StopN.out ?_)
      refine ⟨?_⟩
      refine hcm.mono ?_
      rintro e w2 ⟨v2, rfl, hv2, hb2⟩
      have hir : tby (rbx l k).1 (rbx l k).2.1 (rbx l k).2.2.1 (rbx l k).2.2.2 k = ixrest 1 l k := rfl
      rw [hir] at hv2
      have hlen : (ixrest 1 l k).length ≤ 100 := by unfold ixrest tby rbytes; simp only [if_true]; split <;> simp [le8_len]; omega
      have hB2 := (hB.trans ((((Below.refl wr.heap.size wr).alloc (Nat.le_refl _) _).trans hb2).mono hs))
      have hS2 := hS.below hB2 hsb hhi
      have hsc := setComp_c sb _ wr.heap.size 1 (ixrest 1 l k) v2 ss w2 hS2.1 hss hv2 rfl (by omega) (by have := hb2.size; simp at this; omega) (by omega)
      clear hcm hv2 hS2 hSr hb2
      go_wp2_with (go_at_call 48; refine JR.StopN.out ?_)
      refine ⟨?_⟩
      refine hsc.mono ?_
      rintro e w3 ⟨rfl, w4, g, hb4, hr4, hg, hgr, rfl⟩
      clear hsc
      go_wp2
      go_end0
      exact bip_of (by decide) hsb hB2 (hb4.mono hs) hr4 hg hs hgr

set_option maxRecDepth 100000 in
set_option maxHeartbeats 4000000 in
theorem bIndex0_c (sb lo hi : Nat) (closed : Bool) (l : List (Int × Int)) (ss : Array Value) (w : World) (hS : SerB w sb closed l lo hi ss)
    (hK : ss[3]? = some (.int .u8 0)) (h4 : ss[4]? = some .nilIface) :
    Calls Tryz.prog 43 #[.pointer (some ⟨sb, 0, none⟩)] w (BiP 0 l (nSeg closed l) sb ss w) := by
  have hnn := neNil
  have x3 := (cellAt hS.1 3).trans hK
  have x4 := (cellAt hS.1 4).trans h4
  go_enter Tryz.func43, Tryz.ntmps43
  go_wp2
  go_end0
  refine ⟨rfl, .nilIface, .inl ⟨rfl, rfl⟩, ?_, Keep.refl _ _⟩
  have e : ss.setIfInBounds 4 .nilIface = ss := by
    apply Array.ext_getElem?
    intro i
    rw [Array.getElem?_setIfInBounds]
    split
    · rename_i h
      subst h
      rw [if_pos (by have := hS.2.1; omega), h4]
    · rfl
  rw [e]
  exact hS.1

set_option maxRecDepth 100000 in
set_option maxHeartbeats 4000000 in
theorem bIndex2_c (sb lo hi : Nat) (closed : Bool) (l : List (Int × Int)) (ss : Array Value) (w : World) (hS : SerB w sb closed l lo hi ss) (hhi : hi ≤ w.heap.size)
    (hK : ss[3]? = some (.int .u8 2)) (h4 : ss[4]? = some .nilIface) (r0 r1 r2 r3 : Nat) (h5 : ss[5]? = some (fl r0)) (h6 : ss[6]? = some (fl r1)) (h7 : ss[7]? = some (fl r2)) (h8 : ss[8]? = some (fl r3)) (hl : l.length ≤ 12) (h2l : 2 ≤ l.length) (hbd : ∀ p ∈ l, p.1.natAbs ≤ 1000000 ∧ p.2.natAbs ≤ 1000000) :
    Calls Tryz.prog 43 #[.pointer (some ⟨sb, 0, none⟩)] w (BiP 2 l (nSeg closed l) sb ss w) := by
  have hnn := neNil
  have hsb := lt_of_some hS.1
  have x3 := (cellAt hS.1 3).trans hK
  have x4 := (cellAt hS.1 4).trans h4
  have hss : 5 ≤ ss.size := by have := hS.2.1; omega
  have hn := nSeg_le closed l
  have ht0 := heap_alloc_new w (.cells #[.bool false, .slice none 0 0, .pointer none, .pointer none, .pointer none, .pointer none] 113)
  have hB0 : Below w.heap.size w (w.alloc (.cells #[.bool false, .slice none 0 0, .pointer none, .pointer none, .pointer none, .pointer none] 113)) := (Below.refl _ _).alloc (Nat.le_refl _) _
  have hseg := nseg_c sb lo hi closed l ss _ (hS.below hB0 hsb hhi) (by omega) h2l hbd
  go_enter Tryz.func43, Tryz.ntmps43
  go_wp2_with (go_at_call 44; refine JR.StopN.out ?_)
  refine ⟨?_⟩
  refine hseg.mono ?_
  rintro e w1 ⟨rfl, hb⟩
  have hT1 : QuV w1 w.heap.size 0 := ⟨_, (hb.block _ (lt_of_some ht0)).trans ht0, World.ownsRow_nil _ _ _ _⟩
  have hB1 := hB0.trans (hb.mono hB0.size)
  clear hb ht0 hB0 hseg x3 x4 hnn
  generalize hN : nSeg closed l = N at *
  go_wp2
  go_loopw [8] (fun i wr => ∃ k : Nat, k ≤ N ∧ i = .int .i64 k ∧ QuV wr w.heap.size k ∧ Below w.heap.size w wr) (fun i _ => N - (intOf i).toNat)
  case atStart => exact ⟨0, Nat.zero_le _, rfl, hT1, hB1⟩
  case round =>
    clear hT1 hB1
    obtain ⟨k, hkl, rfl, hT, hB⟩ := hrel
    have hs := hB.size
    have hSr := hS.below hB hsb hhi
    rcases Nat.lt_or_ge k N with hlt | hge
    · obtain ⟨g1, g2⟩ := seg_pts (closed := closed) (l := l) (k := k) (by omega)
      have a1 := at_get g1
      have a2 := at_get g2
      have m1 := hbd _ (List.mem_of_getElem? a1)
      have m2 := hbd _ (List.mem_of_getElem? a2)
      have hsg := sgat_c sb k lo hi closed l _ _ ss wr hSr (by omega) a1 a2
      generalize at' l k = pa at *
      generalize at' l (if k = l.length - 1 then 0 else k + 1) = pb at *
      have hlt' : (k : Int) < (N : Int) := by omega
      clear a1 a2 hbd g1 g2
      go_wp2_with (go_at_call 45; refine JR.StopN.out ?_)
      refine ⟨?_⟩
      refine hsg.mono ?_
      rintro e w2 ⟨rfl, hb2⟩
      have hT2 := hT.below hb2
      have hB2 := hB.trans (hb2.mono hs)
      clear hsg hT hb2 hSr hB hs
      go_wp2_with (with_reducible refine stop_region ?_)
      refine ⟨?_⟩
      have hs2 := hB2.size
      have hnew := heap_alloc_new w2 (.cells #[fl (fb pa.1), fl (fb pa.2), fl (fb pb.1), fl (fb pb.2)] 73)
      have hB3 := hB2.alloc hs2 (.cells #[fl (fb pa.1), fl (fb pa.2), fl (fb pb.1), fl (fb pb.2)] 73)
      have hT3 := hT2.below ((Below.refl _ w2).alloc (Nat.le_refl _) (.cells #[fl (fb pa.1), fl (fb pa.2), fl (fb pb.1), fl (fb pb.2)] 73))
      have hq9 : w2.heap.size ≠ w.heap.size := Nat.ne_of_gt hT2.lt
      clear hT2 hB2
      generalize (w2.alloc (.cells #[fl (fb pa.1), fl (fb pa.2), fl (fb pb.1), fl (fb pb.2)] 73)) = W at *
      generalize w2.heap.size = s9 at *
      generalize hq : w.heap.size = q at *
      obtain ⟨vi, hrow, hown⟩ := id hT3
      have hqv := hT3.lt
      have hs9 := lt_of_some hnew
      have hsbW := (hB3.block sb hsb).trans hS.1
      have hsbl := lt_of_some hsbW
      have hdn : ∀ u, QuV u q (k + 1) → ∃ cs, cs ≠ #[.bool false, vi, .pointer none, .pointer none, .pointer none, .pointer none] ∧ u.heap[q]? = some (.cells cs 113 (0, 0)) := by
        rintro u ⟨vi', hr', ho'⟩
        refine ⟨_, fun he => ?_, hr'⟩
        obtain ⟨A, c, e1⟩ := own_slc hown
        obtain ⟨A', c', e2⟩ := own_slc ho'
        rw [e1, e2] at he
        simp at he
      have hwas : ∀ u, Was W (fun u => QuV u q (k + 1) ∧ Below q W u ∧ u.heap[s9]? = W.heap[s9]?) u → u.heap[sb]? = W.heap[sb]? ∧ u.heap[s9]? = W.heap[s9]? := by
        rintro u (hB | ⟨-, -, hB, h⟩)
        · exact ⟨hB.block sb hsbl, hB.block s9 hs9⟩
        · exact ⟨hB.block sb hsb, h⟩
      refine wp_region_W (fun u => QuV u q (k + 1) ∧ Below q W u ∧ u.heap[s9]? = W.heap[s9]?)
        [.val (.pointer (some ⟨q, 0, none⟩)), .val (.pointer (some ⟨sb, 0, none⟩)), .val (.pointer (some ⟨sb, 0, none⟩)), .val (.pointer (some ⟨sb, 0, none⟩)), .val (.pointer (some ⟨sb, 5, none⟩)),
          .val (.agg #[fl r0, fl r1, fl r2, fl r3]), .val (.agg #[fl (fb pa.1), fl (fb pa.2), fl (fb pb.1), fl (fb pb.2)]),
          .val (.agg #[fl (if pb.1 < pa.1 then fb pb.1 else fb pa.1), fl (if pb.2 < pa.2 then fb pb.2 else fb pa.2), fl (if pb.1 < pa.1 then fb pa.1 else fb pb.1), fl (if pb.2 < pa.2 then fb pa.2 else fb pb.2)]),
          .val (.int .i64 k), .turn q #[.bool false, vi, .pointer none, .pointer none, .pointer none, .pointer none] (· ≠ #[.bool false, vi, .pointer none, .pointer none, .pointer none, .pointer none]) 113]
        [[.ini 6], [.ini 0], [.ini 0], [.frm 2 71], [.frm 3 72], [.frm 4 73], [.ini 9], [.frm 6 75], [.ini 8], [.til 9, .frm 0 69, .frm 1 70, .frm 5 74, .frm 7 76, .frm 8 77]]
        mixed (by kernel_rfl) (by kernel_rfl) (allPre_of ⟨trivial, trivial, trivial, trivial, trivial, trivial, trivial, trivial, trivial, hrow, trivial⟩)
        (fun u u' he ⟨h1, h2, h3⟩ => ⟨h1.below he, h2.trans (he.mono (Nat.le_trans (Nat.le_of_lt hqv) h2.size)), (he.block s9 (Nat.lt_of_lt_of_le hs9 h2.size)).trans h3⟩)
        ⟨OpOk.quiet rfl ?_, OpOk.quiet rfl ?_, OpOk.quiet rfl ?_, OpOk.quiet rfl ?_, OpOk.quiet rfl ?_, OpOk.quiet rfl ?_, OpOk.quiet rfl ?_, OpOk.call rfl ?_, OpOk.quiet rfl ?_,
          OpOk.last rfl (fun u h => hdn u h.1) ⟨.inr ⟨rfl, fun _ _ h => h⟩, .inr ⟨rfl, fun _ _ h => h⟩, .inr ⟨rfl, fun _ _ h => h⟩, .inr ⟨rfl, fun _ _ h => h⟩, .inr ⟨rfl, fun _ _ h => h⟩, .inr ⟨rfl, fun _ _ h => h⟩, .inr ⟨rfl, fun _ _ h => h⟩, .inr ⟨rfl, fun _ _ h => h⟩, .inr ⟨rfl, fun _ _ h => h⟩, .inl rfl, trivial⟩ (fun a u hf => hf.1) ?_, trivial⟩ ?_
      · intro a u _ hf
        simp [facts, Need.fact, Act.eval] at hf
        go_simp
      · intro a u _ hf
        simp [facts, Need.fact, Act.eval] at hf
        go_simp
      · intro a u _ hf
        simp [facts, Need.fact, Act.eval] at hf
        go_simp
      · intro a u _ hf
        simp [facts, Need.fact, Ent.val, Act.eval] at hf
        go_simp
      · intro a u _ hf
        simp [facts, Need.fact, Ent.val, Act.eval] at hf
        go_simp
      · intro a u hG hf
        simp [facts, Need.fact, Ent.val, Act.eval] at hf
        have hr := (hwas u hG).1.trans hsbW
        have y5 := (cellAt hr 5).trans h5
        have y6 := (cellAt hr 6).trans h6
        have y7 := (cellAt hr 7).trans h7
        have y8 := (cellAt hr 8).trans h8
        go_simp
      · intro a u hG hf
        simp [facts, Need.fact, Act.eval] at hf
        have hr := (hwas u hG).2.trans hnew
        have y0 := cellAt hr 0
        have y1 := cellAt hr 1
        have y2 := cellAt hr 2
        have y3 := cellAt hr 3
        simp only [List.getElem?_toArray, List.getElem?_cons_zero, List.getElem?_cons_succ] at y0 y1 y2 y3
        go_simp
      · intro a u _ hf
        simp [facts, Need.fact, Ent.val, Act.eval] at hf
        refine ⟨_, _, by go_simp, (sgr_c (fb_rep pa.1 (by omega)) (fb_rep pa.2 (by omega)) (fb_rep pb.1 (by omega)) (fb_rep pb.2 (by omega)) u).mono ?_⟩
        rintro e w' ⟨rfl, hb⟩
        exact ⟨_, rfl, hb, rfl⟩
      · intro a u _ hf
        simp [facts, Need.fact, Act.eval] at hf
        go_simp
      · intro a u hBu hf
        obtain ⟨-, hf⟩ := hf
        simp [facts, Need.fact, Ent.val, Act.eval] at hf
        have hsu := hBu.size
        refine ⟨_, _, by go_simp, (qinsert_c q k q r0 r1 r2 r3 (if pb.1 < pa.1 then fb pb.1 else fb pa.1) (if pb.2 < pa.2 then fb pb.2 else fb pa.2) (if pb.1 < pa.1 then fb pa.1 else fb pb.1) (if pb.2 < pa.2 then fb pa.2 else fb pb.2) (.pointer (some ⟨sb, 0, none⟩)) u (hT3.below hBu) (by omega) (Nat.le_refl _) (by omega)).mono ?_⟩
        rintro e w' ⟨rfl, hQ, hB', hoth⟩
        refine ⟨_, rfl, Nat.le_of_lt_succ (Nat.lt_succ_of_le ?_), hQ, (hBu.mono (by omega)).trans hB', (hoth s9 _ _ hq9 (by decide) ((hBu.block s9 hs9).trans hnew)).trans hnew.symm⟩
        exact hB'.size
      intro v l' h' wc hW hE
      have hD : QuV wc q (k + 1) ∧ Below q W wc := by
        rcases hW with hW | ⟨-, h1, h2, -⟩
        · simp only [allE, Ent.turn] at hE
          obtain ⟨-, -, -, -, -, -, -, -, -, ⟨cs, g1, g2⟩, -⟩ := hE
          rw [(hW.block q hqv).trans hrow] at g2
          cases g2
          exact absurd rfl g1
        · exact ⟨h1, h2⟩
      simp only [allE, Ent.val] at hE
      obtain ⟨e0, e1, e2, e3, e4, e5, e6, e7, e8, -⟩ := hE
      simp only [Nat.reduceAdd] at e0 e1 e2 e3 e4 e5 e6 e7 e8
      simp only [allPut, Act.put, e0, e1, e2, e3, e4, e5, e6, e7, e8, Nat.reduceAdd]
      generalize v 9 = x78
      generalize (if pb.1 < pa.1 then fb pb.1 else fb pa.1) = q0
      generalize (if pb.2 < pa.2 then fb pb.2 else fb pa.2) = q1
      generalize (if pb.1 < pa.1 then fb pa.1 else fb pb.1) = q2
      generalize (if pb.2 < pa.2 then fb pa.2 else fb pb.2) = q3
      clear hW hwas hdn hT3 hrow hown e0 e1 e2 e3 e4 e5 e6 e7 e8
      obtain ⟨hT4, hB4⟩ := hD
      have hB5 := hB3.trans hB4
      clear hB3 hB4 hnew hsbW m1 m2
      subst hq
      go_wp2
      go_roundw
      case rel => exact ⟨k + 1, by omega, by go_num, hT4, hB5⟩
      case measure => simp [intOf]; omega
    · have hkk : k = N := by omega
      subst hkk
      have hnl : ¬ (k : Int) < (k : Int) := by omega
      have st := (Blk.nil wr).push rfl #[.int .u8 2, .int .u8 0, .int .u8 0, .int .u8 0, .int .u8 0] 5
      have hSr2 := (st.hb.block sb (by omega)).trans hSr.1
      have x5 := (cellAt hSr2 5).trans h5
      have x6 := (cellAt hSr2 6).trans h6
      have x7 := (cellAt hSr2 7).trans h7
      have x8 := (cellAt hSr2 8).trans h8
      have hb5 := byt_five (a := 2) (st.known 0 _ rfl) (Nat.le_refl wr.heap.size)
      have hcm := qcompress_c w.heap.size k r0 r1 r2 r3 _ _ wr _ hT (by omega) st.hb hb5 (by decide)
      clear st hb5 hbd
      go_wp2_with (go_at_call 51; refine JR.StopN.out ?_)
      refine ⟨?_⟩
      refine hcm.mono ?_
      rintro e w2 ⟨v2, rfl, hv2, hb2⟩
      have hir : qbytes k = ixrest 2 l k := rfl
      rw [hir] at hv2
      have hlen : (ixrest 2 l k).length ≤ 100 := by unfold ixrest qbytes; simp; omega
      have hB2 := (hB.trans ((((Below.refl wr.heap.size wr).alloc (Nat.le_refl _) _).trans hb2).mono hs))
      have hS2 := hS.below hB2 hsb hhi
      have hsc := setComp_c sb _ wr.heap.size 2 (ixrest 2 l k) v2 ss w2 hS2.1 hss hv2 rfl (by omega) (by have := hb2.size; simp at this; omega) (by omega)
      clear hcm hv2 hS2 hSr hb2
      go_wp2_with (go_at_call 48; refine JR.StopN.out ?_)
      refine ⟨?_⟩
      refine hsc.mono ?_
      rintro e w3 ⟨rfl, w4, g, hb4, hr4, hg, hgr, rfl⟩
      clear hsc
      go_wp2
      go_end0
      exact bip_of (by decide) hsb hB2 (hb4.mono hs) hr4 hg hs hgr
end Go.Proofs.YtlpibeloedfbdaaGreat
set_option linter.unusedSimpArgs false
set_option linter.unusedVariables false
/-! makeSeries, with an index, exactly. -/
namespace PF
/-- is a ring too short -/
def tooS (closed : Bool) (l : List (Int × Int)) : Bool := closed && decide (l.length < 3)
def ppB (closed : Bool) (l : List (Int × Int)) : Int × Int × Int × Int := if tooS closed l then (0, 0, 0, 0) else box l
def ppV (closed : Bool) (l : List (Int × Int)) : Bool := if tooS closed l then false else !(cvs l l.length).1
def ppW (closed : Bool) (l : List (Int × Int)) : Bool := if tooS closed l then false else decide (0 < cws l l.length)
end PF
namespace Go.Proofs.YtlpibeloedfbdaaGreat
open Go.RowKit PF JR
theorem fb_zero : fb 0 = 0 := by decide +kernel
set_option maxRecDepth 100000 in
set_option maxHeartbeats 2000000 in
theorem pp_c (closed : Bool) (l : List (Int × Int)) (hl : l.length ≤ 1000) (hl2 : 2 ≤ l.length) (hbd : ∀ p ∈ l, Bnd p) (v : Value) (lo hi : Nat) (w : World) (hv : SlQ lo hi w v l) :
    Calls Tryz.prog 42 #[v, .bool closed] w fun e w' => e = .returned (.tuple #[.bool (ppV closed l), .agg #[fl (fb (ppB closed l).1), fl (fb (ppB closed l).2.1), fl (fb (ppB closed l).2.2.1), fl (fb (ppB closed l).2.2.2)], .bool (ppW closed l)]) ∧ Below w.heap.size w w' := by
  cases ht : tooS closed l with
  | false =>
    unfold ppV ppB ppW
    simp only [ht, Bool.false_eq_true, if_false]
    refine processPoints_c closed l (at' l 0) (at_get (by omega)) hl hl2 (fun hc => ?_) hbd v lo hi w hv
    subst hc
    simpa [tooS] using ht
  | true =>
    unfold ppV ppB ppW
    simp only [ht, if_true, fb_zero]
    obtain ⟨rfl, h2⟩ : closed = true ∧ l.length < 3 := by simpa [tooS] using ht
    obtain ⟨A, c, rfl⟩ := hv.len
    have h3 : (l.length : Int) < 3 := by omega
    clear ht hv hbd
    generalize l.length = n at *
    have hn := heap_alloc_new w (.cells #[fl 0, fl 0, fl 0, fl 0] 52)
    go_enter Tryz.func42, Tryz.ntmps42
    go_wp2
    exact bodyPost_ret (v := .tuple #[.bool false, .agg #[fl 0, fl 0, fl 0, fl 0], .bool false]) (by simp [results, Tryz.results42, go_sem]) rfl ⟨rfl, by repeat first | exact Below.refl _ _ | refine Below.alloc ?_ (by simp <;> omega) _ | refine Below.setCell ?_ (by simp <;> omega) _⟩
theorem bIndex_c (K : Nat) (hK2 : K ≤ 2) (sb lo hi : Nat) (closed : Bool) (l : List (Int × Int)) (ss : Array Value) (w : World) (hS : SerB w sb closed l lo hi ss) (hhi : hi ≤ w.heap.size)
    (hK : ss[3]? = some (.int .u8 K)) (h4 : ss[4]? = some .nilIface) (r0 r1 r2 r3 : Nat) (h5 : ss[5]? = some (fl r0)) (h6 : ss[6]? = some (fl r1)) (h7 : ss[7]? = some (fl r2)) (h8 : ss[8]? = some (fl r3)) (hl : l.length ≤ 12) (h2l : 2 ≤ l.length) (hbd : ∀ p ∈ l, p.1.natAbs ≤ 1000000 ∧ p.2.natAbs ≤ 1000000) :
    Calls Tryz.prog 43 #[.pointer (some ⟨sb, 0, none⟩)] w (BiP K l (nSeg closed l) sb ss w) := by
  have hk : K = 0 ∨ K = 1 ∨ K = 2 := by omega
  rcases hk with rfl | rfl | rfl
  · exact bIndex0_c sb lo hi closed l ss w hS hK h4
  · exact bIndex1_c sb lo hi closed l ss w hS hhi hK h4 hl h2l hbd
  · exact bIndex2_c sb lo hi closed l ss w hS hhi hK h4 r0 r1 r2 r3 h5 h6 h7 h8 hl h2l hbd
/-- the cells of a series of these points, with an index of kind K -/
def serC (K : Nat) (closed : Bool) (l : List (Int × Int)) (ix v : Value) : Array Value :=
  #[.bool closed, .bool (ppW closed l), .bool (ppV closed l), .int .u8 K, ix, fl (fb (ppB closed l).1), fl (fb (ppB closed l).2.1), fl (fb (ppB closed l).2.2.1), fl (fb (ppB closed l).2.2.2), v]
/-- what makeSeries gives, with an index of kind K -/
def MkP (K : Nat) (closed : Bool) (l : List (Int × Int)) (w : World) (e : Ending) (w' : World) : Prop :=
  ∃ (ix v' : Value), IxV K l (nSeg closed l) w.heap.size w'.heap.size w' ix ∧ e = .returned (.agg (serC K closed l ix v')) ∧ SlQ w.heap.size w'.heap.size w' v' l ∧ Below w.heap.size w w'

set_option maxRecDepth 100000 in
set_option maxHeartbeats 4000000 in
theorem makeSeriesK_c (K : Nat) (hK2 : K ≤ 2) (closed : Bool) (l : List (Int × Int)) (hl : l.length ≤ 12) (h2l : 2 ≤ l.length) (hbd : ∀ p ∈ l, Bnd p)
    (ob : Nat) (v : Value) (lo hb0 : Nat) (w : World) (hhb : hb0 ≤ w.heap.size) (hob : w.heap[ob]? = some (.cells #[.int .u8 K, .int .i64 2] 77 (0, 0))) (hv : SlQ lo hb0 w v l) :
    Calls Tryz.prog 38 #[v, .bool true, .bool closed, .pointer (some ⟨ob, 0, none⟩)] w (MkP K closed l w) := by
  have hne : 0 < l.length := by omega
  unfold MkP serC
  obtain ⟨i0, hi, hz0, hz1, hz2⟩ := info_parts infoF
  have hmk : ∀ u : World, (Instr.makeSlice 58 (.int .i64 l.length) (.int .i64 l.length)).run Tryz.prog u = .ok (.slice (some ⟨u.heap.size, 0, none⟩) l.length l.length) (u.alloc (.cells (madeCells #[fl 0, fl 0] (l.length * 2)) 50)) := by
    intro u
    have := run_make (P := Tryz.prog) u 58 50 i0 (.agg #[fl 0, fl 0]) Tryz.underlying58 hi hz0 .i64 .i64 l.length l.length (by omega) (by omega) (by rw [hz2]; omega) (by omega)
    rw [hz1] at this
    have e : (Value.agg #[fl 0, fl 0]).cells = #[fl 0, fl 0] := rfl
    rw [e] at this
    simpa using this
  have hv0 := hv
  obtain ⟨A, c, rfl, hk⟩ := hv
  obtain ⟨p0, hp0⟩ : ∃ p, l[0]? = some p := ⟨l[0], by simp [hne]⟩
  obtain ⟨b, rfl, -, -, g1, g2⟩ := hk 0 p0 hp0
  go_enter Tryz.func38, Tryz.ntmps38
  go_wp2
  have st0 := (((Blk.nil w).push rfl #[.bool false, .bool false, .bool false, .int .u8 0, .nilIface, fl 0, fl 0, fl 0, fl 0, .slice none 0 0] 81).push (b := w.heap.size + 1) (by simp) #[.bool closed, .bool false, .bool false, .int .u8 0, .nilIface, fl 0, fl 0, fl 0, fl 0, .slice (some ⟨w.heap.size + 1 + 1, 0, none⟩) l.length l.length] 81).push (b := w.heap.size + 1 + 1) (by simp) (madeCells #[fl 0, fl 0] (l.length * 2)) 50
  have hsrc0 := (SlQ.src hv0)
  have hsz := size_madeCells #[fl 0, fl 0] (l.length * 2)
  rw [run_copy_wide _ _ _ _ 50 _ _ _ _ _ _ 2 _ _ (cellsF l) Tryz.underlying58 (by rw [hi]; simp [hz1]) (st0.known 0 _ rfl) (by simp [cellsF_len, Nat.min_self]) (fun j v hj => (st0.hb.cell (World.block_lt_of_cell? w _ (hsrc0 j v hj))).trans (hsrc0 j v hj)) (by simp [cellsF_len, hsz]) (cellsF_one l)]
  have hrow : (cellsF l ++ (madeCells #[fl 0, fl 0] (l.length * 2)).toList.drop (cellsF l).length).toArray = (cellsF l).toArray := by
    rw [List.drop_eq_nil_of_le (by simp [cellsF_len, hsz]), List.append_nil]
  rw [hrow]
  have st1 := st0.row 0 (cs' := (cellsF l).toArray) rfl ⟨.inl rfl, .inr (by show _ ≠ _; omega), .inr (by show _ ≠ _; omega), trivial⟩ (by omega)
  have hoblt := lt_of_some hob
  have ho0 := st1.hb.block ob hoblt
  have ho1 := ho0.trans hob
  clear st0 hsrc0 hsz hrow ho0 hmk
  simp only [Result.andThen_ok]
  generalize World.setRow _ (w.heap.size + 1 + 1) (cellsF l).toArray = w4 at *
  have x0 := st1.cell 1 rfl 0
  have x1 := st1.cell 1 rfl 1
  have x2 := st1.cell 1 rfl 2
  have x3 := st1.cell 1 rfl 3
  have x4 := st1.cell 1 rfl 4
  have x5 := st1.cell 1 rfl 5
  have x6 := st1.cell 1 rfl 6
  have x7 := st1.cell 1 rfl 7
  have x8 := st1.cell 1 rfl 8
  have x9 := st1.cell 1 rfl 9
  have xf := fun o => st1.frozen 1 rfl o
  simp only [List.set_cons_zero, List.getElem?_toArray, List.getElem?_cons_zero, List.getElem?_cons_succ] at x0 x1 x2 x3 x4 x5 x6 x7 x8 x9
  have sq := st1.slq 0 rfl l.length
  simp only [Oper.upon]
  go_wp2_with (go_at_call 42; refine JR.StopM.out ?_)
  refine ⟨?_⟩
  have hv4 := hv0.keep (fun k _ h2 => st1.hb.block k (by omega))
  refine (pp_c closed l (by omega) h2l hbd _ lo hb0 _ hv4).mono ?_
  rintro e w5 ⟨rfl, hb⟩
  generalize e1 : ppV closed l = cv at *
  generalize e2 : ppW closed l = cw at *
  generalize e3 : fb (ppB closed l).1 = r0 at *
  generalize e4 : fb (ppB closed l).2.1 = r1 at *
  generalize e5 : fb (ppB closed l).2.2.1 = r2 at *
  generalize e6 : fb (ppB closed l).2.2.2 = r3 at *
  have st2 := st1.ext hb
  have ho2 := (hb.block ob (lt_of_some ho1)).trans ho1
  clear x0 x1 x2 x3 x4 x5 x6 x7 x8 x9 xf sq hb st1 hv4 ho1
  have oc0 := cellAt ho2 0
  have oc1 := cellAt ho2 1
  have x0 := st2.cell 1 rfl 0
  have x1 := st2.cell 1 rfl 1
  have x2 := st2.cell 1 rfl 2
  have x3 := st2.cell 1 rfl 3
  have x4 := st2.cell 1 rfl 4
  have x5 := st2.cell 1 rfl 5
  have x6 := st2.cell 1 rfl 6
  have x7 := st2.cell 1 rfl 7
  have x8 := st2.cell 1 rfl 8
  have x9 := st2.cell 1 rfl 9
  have xf := fun o => st2.frozen 1 rfl o
  simp only [List.set_cons_zero, List.getElem?_toArray, List.getElem?_cons_zero, List.getElem?_cons_succ] at oc0 oc1 x0 x1 x2 x3 x4 x5 x6 x7 x8 x9
  have hge : (2 : Int) ≤ (l.length : Int) := by omega
  go_wp2_with (go_at_call 43; refine JR.StopM.out ?_)
  refine ⟨?_⟩
  have p0 := st2.put (o := 2) (v := .bool cv) 1 rfl ⟨.inr (by show _ ≠ _; omega), .inl rfl, .inr (by show _ ≠ _; omega), trivial⟩ (by omega)
  have p1 := p0.put (o := 5) (v := fl r0) 1 rfl ⟨.inr (by show _ ≠ _; omega), .inl rfl, .inr (by show _ ≠ _; omega), trivial⟩ (by omega)
  have p2 := p1.put (o := 6) (v := fl r1) 1 rfl ⟨.inr (by show _ ≠ _; omega), .inl rfl, .inr (by show _ ≠ _; omega), trivial⟩ (by omega)
  have p3 := p2.put (o := 7) (v := fl r2) 1 rfl ⟨.inr (by show _ ≠ _; omega), .inl rfl, .inr (by show _ ≠ _; omega), trivial⟩ (by omega)
  have p4 := p3.put (o := 8) (v := fl r3) 1 rfl ⟨.inr (by show _ ≠ _; omega), .inl rfl, .inr (by show _ ≠ _; omega), trivial⟩ (by omega)
  have p5 := p4.put (o := 1) (v := .bool cw) 1 rfl ⟨.inr (by show _ ≠ _; omega), .inl rfl, .inr (by show _ ≠ _; omega), trivial⟩ (by omega)
  have p6 := p5.put (o := 3) (v := .int .u8 K) 1 rfl ⟨.inr (by show _ ≠ _; omega), .inl rfl, .inr (by show _ ≠ _; omega), trivial⟩ (by omega)
  clear p0 p1 p2 p3 p4 p5 st2 x0 x1 x2 x3 x4 x5 x6 x7 x8 x9 xf oc0 oc1 ho2
  generalize ((((((w5.setCell _ _).setCell _ _).setCell _ _).setCell _ _).setCell _ _).setCell _ _).setCell _ _ = w6 at *
  have k0 := p6.known 0 _ rfl
  have k1 := p6.known 1 _ rfl
  have k2 := p6.known 2 _ rfl
  have sq := p6.slq 0 rfl l.length
  have hb6 := p6.hb
  clear p6
  simp only [List.setIfInBounds_toArray, List.set_cons_zero, List.set_cons_succ] at k1
  have hlt0 := lt_of_some k0
  have hS : SerB w6 (w.heap.size + 1) closed l (w.heap.size + 1 + 1) (w.heap.size + 1 + 1 + 1) #[.bool closed, .bool cw, .bool cv, .int .u8 K, .nilIface, fl r0, fl r1, fl r2, fl r3, .slice (some ⟨w.heap.size + 1 + 1, 0, none⟩) l.length l.length] := ⟨k1, rfl, rfl, _, rfl, sq⟩
  have hbi := bIndex_c K hK2 _ _ _ _ _ _ _ hS (by omega) rfl rfl r0 r1 r2 r3 rfl rfl rfl rfl hl h2l hbd
  clear sq hS
  refine hbi.mono ?_
  rintro e w7 ⟨rfl, x, hx, hr⟩
  have hs6 := hb6.size
  have hlt2 := lt_of_some k2
  have hx7 := hx
  have n1 := hr.row
  have hkp := hr.kp
  simp only [List.setIfInBounds_toArray, List.set_cons_zero, List.set_cons_succ] at n1
  have n0 := (hkp.block _ hlt0 (by simp)).trans k0
  have n2 := (hkp.block _ (lt_of_some k2) (by simp)).trans k2
  have hb7 : Below w.heap.size w w7 := Keep.belowX hkp hb6 hb6.size (by simp)
  have st7 := ((((⟨fun i x h => by simp at h, hb7⟩ : Blk w w7 []).add n2).add n1).add n0)
  clear hbi hr k0 k1 k2 n0 n1 n2 hkp hb6 hb7
  have x0 := st7.cell 1 rfl 0
  have x1 := st7.cell 1 rfl 1
  have x2 := st7.cell 1 rfl 2
  have x3 := st7.cell 1 rfl 3
  have x4 := st7.cell 1 rfl 4
  have x5 := st7.cell 1 rfl 5
  have x6 := st7.cell 1 rfl 6
  have x7 := st7.cell 1 rfl 7
  have x8 := st7.cell 1 rfl 8
  have x9 := st7.cell 1 rfl 9
  have d0 := st7.cell 2 rfl 0
  have d1 := st7.cell 2 rfl 1
  have d2 := st7.cell 2 rfl 2
  have d3 := st7.cell 2 rfl 3
  have d4 := st7.cell 2 rfl 4
  have d5 := st7.cell 2 rfl 5
  have d6 := st7.cell 2 rfl 6
  have d7 := st7.cell 2 rfl 7
  have d8 := st7.cell 2 rfl 8
  have d9 := st7.cell 2 rfl 9
  have xf := fun o => st7.frozen 1 rfl o
  have df := fun o => st7.frozen 2 rfl o
  simp only [List.set_cons_zero, List.getElem?_toArray, List.getElem?_cons_zero, List.getElem?_cons_succ] at x0 x1 x2 x3 x4 x5 x6 x7 x8 x9 d0 d1 d2 d3 d4 d5 d6 d7 d8 d9
  have hfin : ∀ u : World, (∀ k, w.heap.size + 1 ≤ k → u.heap[k]? = w7.heap[k]?) → w7.heap.size ≤ u.heap.size → IxV K l (nSeg closed l) w.heap.size u.heap.size u x := fun u h1 h2 => (hx7.keep fun k g1 _ _ => h1 k (by omega)).wide (by omega) h2
  clear hx7
  rcases hx with ⟨-, rfl⟩ | ⟨-, g, rfl, -⟩
  · go_wp2
    refine bodyPost_ret (v := .agg #[.bool closed, .bool cw, .bool cv, .int .u8 K, .nilIface, fl r0, fl r1, fl r2, fl r3, .slice (some ⟨w.heap.size + 1 + 1, 0, none⟩) l.length l.length]) (by simp [results, Tryz.results38, go_sem, d0, d1, d2, d3, d4, d5, d6, d7, d8, d9]) rfl ⟨_, _, ?_, by subst e1 e2 e3 e4 e5 e6; rfl, ?_, ?_⟩
    · refine hfin _ (fun k hk => ?_) (by simp)
      iterate 10 refine (Below.heap_setCell _ _ _ _ (by show k ≠ w.heap.size; omega)).trans ?_
      rfl
    · refine slq_row (T := 50) ?_ (by omega) ?_
      · iterate 10 refine (Below.heap_setCell _ _ _ _ (by show w.heap.size + 1 + 1 ≠ w.heap.size; omega)).trans ?_
        exact st7.known 0 _ rfl
      · have := st7.lt 0 rfl
        simpa using this
    · iterate 10 refine Below.setCell ?_ (by show w.heap.size ≤ w.heap.size; exact Nat.le_refl _) _
      exact st7.hb
  · go_wp2
    refine bodyPost_ret (v := .agg #[.bool closed, .bool cw, .bool cv, .int .u8 K, .iface 107 (.slice (some ⟨g, 0, none⟩) (ixby K l (nSeg closed l)).length (ixby K l (nSeg closed l)).length), fl r0, fl r1, fl r2, fl r3, .slice (some ⟨w.heap.size + 1 + 1, 0, none⟩) l.length l.length]) (by simp [results, Tryz.results38, go_sem, d0, d1, d2, d3, d4, d5, d6, d7, d8, d9]) rfl ⟨_, _, ?_, by subst e1 e2 e3 e4 e5 e6; rfl, ?_, ?_⟩
    · refine hfin _ (fun k hk => ?_) (by simp)
      iterate 10 refine (Below.heap_setCell _ _ _ _ (by show k ≠ w.heap.size; omega)).trans ?_
      rfl
    · refine slq_row (T := 50) ?_ (by omega) ?_
      · iterate 10 refine (Below.heap_setCell _ _ _ _ (by show w.heap.size + 1 + 1 ≠ w.heap.size; omega)).trans ?_
        exact st7.known 0 _ rfl
      · have := st7.lt 0 rfl
        simpa using this
    · iterate 10 refine Below.setCell ?_ (by show w.heap.size ≤ w.heap.size; exact Nat.le_refl _) _
      exact st7.hb
end Go.Proofs.YtlpibeloedfbdaaGreat
set_option linter.unusedSimpArgs false
set_option linter.unusedVariables false
/-! Rings and lines with an index, exactly. -/
namespace Go.Proofs.YtlpibeloedfbdaaGreat
open Go.RowKit PF JR
/-- block b, from number lo up to hi, holds a series of these points, with an index of kind K -/
def SkP (K : Nat) (closed : Bool) (l : List (Int × Int)) (T : TypeId) (lo hi b : Nat) (w : World) : Prop :=
  ∃ (ix v' : Value), IxV K l (nSeg closed l) lo hi w ix ∧ lo ≤ b ∧ b < hi ∧ w.heap[b]? = some (.cells (serC K closed l ix v') T (0, 0)) ∧ SlQ lo hi w v' l
theorem SkP.keep {K : Nat} {closed : Bool} {l : List (Int × Int)} {T : TypeId} {lo hi b : Nat} {w w' : World} (H : SkP K closed l T lo hi b w)
    (hk : ∀ k, lo ≤ k → k < hi → k < w.heap.size → w'.heap[k]? = w.heap[k]?) : SkP K closed l T lo hi b w' := by
  obtain ⟨ix, v', h0, h1, h2, h3, h4⟩ := H
  exact ⟨ix, v', h0.keep hk, h1, h2, (hk b h1 h2 (lt_of_some h3)).trans h3, h4.keep' hk⟩
theorem SkP.below {K : Nat} {closed : Bool} {l : List (Int × Int)} {T : TypeId} {lo hi b : Nat} {w w' : World} (H : SkP K closed l T lo hi b w) (hb : Below w.heap.size w w') : SkP K closed l T lo hi b w' :=
  H.keep fun k _ _ h => hb.block k h
theorem SkP.wide {K : Nat} {closed : Bool} {l : List (Int × Int)} {T : TypeId} {lo hi lo' hi' b : Nat} {w : World} (H : SkP K closed l T lo hi b w) (h1 : lo' ≤ lo) (h2 : hi ≤ hi') : SkP K closed l T lo' hi' b w := by
  obtain ⟨ix, v', g0, g1, g2, g3, g4⟩ := H
  exact ⟨ix, v', g0.wide h1 h2, by omega, by omega, g3, g4.wide h1 h2⟩
theorem set10 {u : World} {b k o0 o1 o2 o3 o4 o5 o6 o7 o8 o9 : Nat} {v0 v1 v2 v3 v4 v5 v6 v7 v8 v9 : Value} (h : k ≠ b) :
    ((((((((((u.setCell ⟨b, o0, none⟩ v0).setCell ⟨b, o1, none⟩ v1).setCell ⟨b, o2, none⟩ v2).setCell ⟨b, o3, none⟩ v3).setCell ⟨b, o4, none⟩ v4).setCell ⟨b, o5, none⟩ v5).setCell ⟨b, o6, none⟩ v6).setCell ⟨b, o7, none⟩ v7).setCell ⟨b, o8, none⟩ v8).setCell ⟨b, o9, none⟩ v9).heap[k]? = u.heap[k]? := by
  iterate 10 refine (Below.heap_setCell _ _ _ _ h).trans ?_
  rfl
def RkP (K : Nat) (l : List (Int × Int)) (w : World) (e : Ending) (w' : World) : Prop :=
  ∃ b : Nat, e = .returned (.iface 95 (.pointer (some ⟨b, 0, none⟩))) ∧ SkP K true l 81 w.heap.size w'.heap.size b w' ∧ Below w.heap.size w w'
def LkP (K : Nat) (l : List (Int × Int)) (w : World) (e : Ending) (w' : World) : Prop :=
  ∃ b : Nat, e = .returned (.pointer (some ⟨b, 0, none⟩)) ∧ SkP K false l 83 w.heap.size w'.heap.size b w' ∧ Below w.heap.size w w'

set_option maxRecDepth 100000 in
set_option maxHeartbeats 1000000 in
theorem newRingK_c (K : Nat) (l : List (Int × Int)) (v o : Value) (w : World)
    (ms : Calls Tryz.prog 38 #[v, .bool true, .bool true, o] w (MkP K true l w)) :
    Calls Tryz.prog 40 #[v, o] w (RkP K l w) := by
  go_enter Tryz.func40, Tryz.ntmps40
  go_wp2_with (go_at_call 38; refine JR.StopM.out ?_)
  refine ⟨?_⟩
  refine ms.mono ?_
  rintro e w1 ⟨ix, v', hix, rfl, sq, hb⟩
  unfold serC
  obtain ⟨A0, c0, rfl⟩ : ∃ A c, v' = .slice A l.length c := sq.elim fun A h => h.elim fun c h => ⟨A, c, h.1⟩
  have hn := heap_alloc_new w1 (.cells (serC K true l ix (.slice A0 l.length c0)) 81)
  have hs := hb.alloc hb.size (.cells (serC K true l ix (.slice A0 l.length c0)) 81)
  have hq : SkP K true l 81 w.heap.size (w1.alloc (.cells (serC K true l ix (.slice A0 l.length c0)) 81)).heap.size w1.heap.size (w1.alloc (.cells (serC K true l ix (.slice A0 l.length c0)) 81)) := by
    refine ⟨ix, _, (hix.keep fun k _ _ h => Below.heap_alloc w1 _ k h).wide (Nat.le_refl _) (by simp), hb.size, by simp, hn, ?_⟩
    obtain ⟨A, c, hv, hk⟩ := sq.keep (fun k _ h2 => Below.heap_alloc w1 (.cells (serC K true l ix (.slice A0 l.length c0)) 81) k h2)
    refine ⟨A, c, hv, fun k p hp => ?_⟩
    obtain ⟨b, h1, h2, h3, h4⟩ := hk k p hp
    exact ⟨b, h1, h2, by simp; omega, h4⟩
  unfold serC at hq hs
  clear hn sq hb
  generalize ppW true l = cw at *
  rcases hix with ⟨-, rfl⟩ | ⟨-, g, rfl, -⟩
  · go_wp2
    go_ret
    exact ⟨_, rfl, hq, hs⟩
  · go_wp2
    go_ret
    exact ⟨_, rfl, hq, hs⟩

set_option maxRecDepth 100000 in
set_option maxHeartbeats 1000000 in
theorem newLineK_c (K : Nat) (l : List (Int × Int)) (v o : Value) (w : World)
    (ms : ∀ u, Below w.heap.size w u → Calls Tryz.prog 38 #[v, .bool true, .bool false, o] u (MkP K false l u)) :
    Calls Tryz.prog 18 #[v, o] w (LkP K l w) := by
  have st0 := (Blk.nil w).push rfl #[.bool false, .bool false, .bool false, .int .u8 0, .nilIface, fl 0, fl 0, fl 0, fl 0, .slice none 0 0] 83
  go_enter Tryz.func18, Tryz.ntmps18
  go_wp2_with (go_at_call 38; refine JR.StopM.out ?_)
  refine ⟨?_⟩
  refine (ms _ st0.hb).mono ?_
  rintro e w1 ⟨ix, v', hix, rfl, sq, hb⟩
  unfold serC
  generalize e1 : ppV false l = cv at *
  generalize e2 : ppW false l = cw at *
  generalize e3 : fb (ppB false l).1 = R0 at *
  generalize e4 : fb (ppB false l).2.1 = R1 at *
  generalize e5 : fb (ppB false l).2.2.1 = R2 at *
  generalize e6 : fb (ppB false l).2.2.2 = R3 at *
  obtain ⟨A0, c0, rfl⟩ : ∃ A c, v' = .slice A l.length c := sq.elim fun A h => h.elim fun c h => ⟨A, c, h.1⟩
  have hix1 := hix
  have hz1 : w.heap.size + 1 ≤ w1.heap.size := by have := hb.size; simpa using this
  have hfin : ∀ u : World, (∀ k, w.heap.size + 1 ≤ k → u.heap[k]? = w1.heap[k]?) → w1.heap.size ≤ u.heap.size → IxV K l (nSeg false l) w.heap.size u.heap.size u ix := fun u h1 h2 => (hix1.keep fun k g1 _ _ => h1 k (by simp at g1; omega)).wide (by simp) h2
  clear hix1
  rcases hix with ⟨-, rfl⟩ | ⟨-, g, rfl, -⟩
  · have st1 := st0.ext hb
    have x0 := st1.cell 0 rfl 0
    have x1 := st1.cell 0 rfl 1
    have x2 := st1.cell 0 rfl 2
    have x3 := st1.cell 0 rfl 3
    have x4 := st1.cell 0 rfl 4
    have x5 := st1.cell 0 rfl 5
    have x6 := st1.cell 0 rfl 6
    have x7 := st1.cell 0 rfl 7
    have x8 := st1.cell 0 rfl 8
    have x9 := st1.cell 0 rfl 9
    have xf := fun o => st1.frozen 0 rfl o
    simp only [List.getElem?_toArray, List.getElem?_cons_zero, List.getElem?_cons_succ] at x0 x1 x2 x3 x4 x5 x6 x7 x8 x9
    go_wp2
    go_ret
    have p0 := st1.put (o := 0) (v := .bool false) 0 rfl ⟨.inl rfl, trivial⟩ (Nat.le_refl _)
    have p1 := p0.put (o := 1) (v := .bool cw) 0 rfl ⟨.inl rfl, trivial⟩ (Nat.le_refl _)
    have p2 := p1.put (o := 2) (v := .bool cv) 0 rfl ⟨.inl rfl, trivial⟩ (Nat.le_refl _)
    have p3 := p2.put (o := 3) (v := .int .u8 K) 0 rfl ⟨.inl rfl, trivial⟩ (Nat.le_refl _)
    have p4 := p3.put (o := 4) (v := .nilIface) 0 rfl ⟨.inl rfl, trivial⟩ (Nat.le_refl _)
    have p5 := p4.put (o := 5) (v := fl R0) 0 rfl ⟨.inl rfl, trivial⟩ (Nat.le_refl _)
    have p6 := p5.put (o := 6) (v := fl R1) 0 rfl ⟨.inl rfl, trivial⟩ (Nat.le_refl _)
    have p7 := p6.put (o := 7) (v := fl R2) 0 rfl ⟨.inl rfl, trivial⟩ (Nat.le_refl _)
    have p8 := p7.put (o := 8) (v := fl R3) 0 rfl ⟨.inl rfl, trivial⟩ (Nat.le_refl _)
    have p9 := p8.put (o := 9) (v := .slice A0 l.length c0) 0 rfl ⟨.inl rfl, trivial⟩ (Nat.le_refl _)
    have st2 := p9
    have he := p9.known 0 _ rfl
    have hlt := lt_of_some he
    simp only [List.setIfInBounds_toArray, List.set_cons_zero, List.set_cons_succ] at he
    clear p0 p1 p2 p3 p4 p5 p6 p7 p8 p9 x0 x1 x2 x3 x4 x5 x6 x7 x8 x9 xf
    have hsz : (((((((((((w1.setCell ⟨w.heap.size, 0, none⟩ (.bool false)).setCell ⟨w.heap.size, 1, none⟩ (.bool cw)).setCell ⟨w.heap.size, 2, none⟩ (.bool cv)).setCell ⟨w.heap.size, 3, none⟩ (.int .u8 K)).setCell ⟨w.heap.size, 4, none⟩ (.nilIface)).setCell ⟨w.heap.size, 5, none⟩ (fl R0)).setCell ⟨w.heap.size, 6, none⟩ (fl R1)).setCell ⟨w.heap.size, 7, none⟩ (fl R2)).setCell ⟨w.heap.size, 8, none⟩ (fl R3)).setCell ⟨w.heap.size, 9, none⟩ (.slice A0 l.length c0))).heap.size = w1.heap.size := by simp
    have hk : ∀ k, (w.alloc (.cells #[.bool false, .bool false, .bool false, .int .u8 0, .nilIface, fl 0, fl 0, fl 0, fl 0, .slice none 0 0] 83)).heap.size ≤ k → k < w1.heap.size → (((((((((((w1.setCell ⟨w.heap.size, 0, none⟩ (.bool false)).setCell ⟨w.heap.size, 1, none⟩ (.bool cw)).setCell ⟨w.heap.size, 2, none⟩ (.bool cv)).setCell ⟨w.heap.size, 3, none⟩ (.int .u8 K)).setCell ⟨w.heap.size, 4, none⟩ (.nilIface)).setCell ⟨w.heap.size, 5, none⟩ (fl R0)).setCell ⟨w.heap.size, 6, none⟩ (fl R1)).setCell ⟨w.heap.size, 7, none⟩ (fl R2)).setCell ⟨w.heap.size, 8, none⟩ (fl R3)).setCell ⟨w.heap.size, 9, none⟩ (.slice A0 l.length c0))).heap[k]? = w1.heap[k]? := by
      intro k h1 _
      simp at h1
      iterate 10 refine (Below.heap_setCell _ _ _ _ (by show k ≠ w.heap.size; omega)).trans ?_
      rfl
    have sq2 := sq.keep hk
    refine ⟨_, rfl, ⟨.nilIface, _, (hfin _ (fun k hk' => set10 (by omega)) (by simp)), Nat.le_refl _, hlt, by subst e1 e2 e3 e4 e5 e6; exact he, ?_⟩, st2.hb⟩
    obtain ⟨A, c, hv, hq⟩ := sq2
    refine ⟨A, c, hv, fun k p hp => ?_⟩
    obtain ⟨b, h1, h2, h3, h4⟩ := hq k p hp
    exact ⟨b, h1, by simp at h2; omega, by rw [hsz]; exact h3, h4⟩
  · have st1 := st0.ext hb
    have x0 := st1.cell 0 rfl 0
    have x1 := st1.cell 0 rfl 1
    have x2 := st1.cell 0 rfl 2
    have x3 := st1.cell 0 rfl 3
    have x4 := st1.cell 0 rfl 4
    have x5 := st1.cell 0 rfl 5
    have x6 := st1.cell 0 rfl 6
    have x7 := st1.cell 0 rfl 7
    have x8 := st1.cell 0 rfl 8
    have x9 := st1.cell 0 rfl 9
    have xf := fun o => st1.frozen 0 rfl o
    simp only [List.getElem?_toArray, List.getElem?_cons_zero, List.getElem?_cons_succ] at x0 x1 x2 x3 x4 x5 x6 x7 x8 x9
    go_wp2
    go_ret
    have p0 := st1.put (o := 0) (v := .bool false) 0 rfl ⟨.inl rfl, trivial⟩ (Nat.le_refl _)
    have p1 := p0.put (o := 1) (v := .bool cw) 0 rfl ⟨.inl rfl, trivial⟩ (Nat.le_refl _)
    have p2 := p1.put (o := 2) (v := .bool cv) 0 rfl ⟨.inl rfl, trivial⟩ (Nat.le_refl _)
    have p3 := p2.put (o := 3) (v := .int .u8 K) 0 rfl ⟨.inl rfl, trivial⟩ (Nat.le_refl _)
    have p4 := p3.put (o := 4) (v := .iface 107 (.slice (some ⟨g, 0, none⟩) (ixby K l (nSeg false l)).length (ixby K l (nSeg false l)).length)) 0 rfl ⟨.inl rfl, trivial⟩ (Nat.le_refl _)
    have p5 := p4.put (o := 5) (v := fl R0) 0 rfl ⟨.inl rfl, trivial⟩ (Nat.le_refl _)
    have p6 := p5.put (o := 6) (v := fl R1) 0 rfl ⟨.inl rfl, trivial⟩ (Nat.le_refl _)
    have p7 := p6.put (o := 7) (v := fl R2) 0 rfl ⟨.inl rfl, trivial⟩ (Nat.le_refl _)
    have p8 := p7.put (o := 8) (v := fl R3) 0 rfl ⟨.inl rfl, trivial⟩ (Nat.le_refl _)
    have p9 := p8.put (o := 9) (v := .slice A0 l.length c0) 0 rfl ⟨.inl rfl, trivial⟩ (Nat.le_refl _)
    have st2 := p9
    have he := p9.known 0 _ rfl
    have hlt := lt_of_some he
    simp only [List.setIfInBounds_toArray, List.set_cons_zero, List.set_cons_succ] at he
    clear p0 p1 p2 p3 p4 p5 p6 p7 p8 p9 x0 x1 x2 x3 x4 x5 x6 x7 x8 x9 xf
    have hsz : (((((((((((w1.setCell ⟨w.heap.size, 0, none⟩ (.bool false)).setCell ⟨w.heap.size, 1, none⟩ (.bool cw)).setCell ⟨w.heap.size, 2, none⟩ (.bool cv)).setCell ⟨w.heap.size, 3, none⟩ (.int .u8 K)).setCell ⟨w.heap.size, 4, none⟩ (.iface 107 (.slice (some ⟨g, 0, none⟩) (ixby K l (nSeg false l)).length (ixby K l (nSeg false l)).length))).setCell ⟨w.heap.size, 5, none⟩ (fl R0)).setCell ⟨w.heap.size, 6, none⟩ (fl R1)).setCell ⟨w.heap.size, 7, none⟩ (fl R2)).setCell ⟨w.heap.size, 8, none⟩ (fl R3)).setCell ⟨w.heap.size, 9, none⟩ (.slice A0 l.length c0))).heap.size = w1.heap.size := by simp
    have hk : ∀ k, (w.alloc (.cells #[.bool false, .bool false, .bool false, .int .u8 0, .nilIface, fl 0, fl 0, fl 0, fl 0, .slice none 0 0] 83)).heap.size ≤ k → k < w1.heap.size → (((((((((((w1.setCell ⟨w.heap.size, 0, none⟩ (.bool false)).setCell ⟨w.heap.size, 1, none⟩ (.bool cw)).setCell ⟨w.heap.size, 2, none⟩ (.bool cv)).setCell ⟨w.heap.size, 3, none⟩ (.int .u8 K)).setCell ⟨w.heap.size, 4, none⟩ (.iface 107 (.slice (some ⟨g, 0, none⟩) (ixby K l (nSeg false l)).length (ixby K l (nSeg false l)).length))).setCell ⟨w.heap.size, 5, none⟩ (fl R0)).setCell ⟨w.heap.size, 6, none⟩ (fl R1)).setCell ⟨w.heap.size, 7, none⟩ (fl R2)).setCell ⟨w.heap.size, 8, none⟩ (fl R3)).setCell ⟨w.heap.size, 9, none⟩ (.slice A0 l.length c0))).heap[k]? = w1.heap[k]? := by
      intro k h1 _
      simp at h1
      iterate 10 refine (Below.heap_setCell _ _ _ _ (by show k ≠ w.heap.size; omega)).trans ?_
      rfl
    have sq2 := sq.keep hk
    refine ⟨_, rfl, ⟨.iface 107 (.slice (some ⟨g, 0, none⟩) (ixby K l (nSeg false l)).length (ixby K l (nSeg false l)).length), _, (hfin _ (fun k hk' => set10 (by omega)) (by simp)), Nat.le_refl _, hlt, by subst e1 e2 e3 e4 e5 e6; exact he, ?_⟩, st2.hb⟩
    obtain ⟨A, c, hv, hq⟩ := sq2
    refine ⟨A, c, hv, fun k p hp => ?_⟩
    obtain ⟨b, h1, h2, h3, h4⟩ := hq k p hp
    exact ⟨b, h1, by simp at h2; omega, by rw [hsz]; exact h3, h4⟩
theorem index2_c (K : Nat) (hK : K ≤ 2) (w : World) : Calls Tryz.prog 14 #[.int .i64 K, .int .i64 2] w fun e w' => e = .returned (.pointer (some ⟨w.heap.size, 0, none⟩)) ∧ w' = w.alloc (.cells #[.int .u8 K, .int .i64 2] 77) := by
  have hk : K = 0 ∨ K = 1 ∨ K = 2 := by omega
  rcases hk with rfl | rfl | rfl
  · go_enter Tryz.func14, Tryz.ntmps14
    go_wp2
    go_ret
    exact ⟨rfl, rfl⟩
  · go_enter Tryz.func14, Tryz.ntmps14
    go_wp2
    go_ret
    exact ⟨rfl, rfl⟩
  · go_enter Tryz.func14, Tryz.ntmps14
    go_wp2
    go_ret
    exact ⟨rfl, rfl⟩
end Go.Proofs.YtlpibeloedfbdaaGreat
set_option linter.unusedSimpArgs false
set_option linter.unusedVariables false
/-! Numbers read from the index. -/
namespace PF
open Go Go.RowKit JR
theorem le8_sum (x : Nat) (hx : x < 18446744073709551616) : x % 256 + 256 * (x / 256 % 256) + 65536 * (x / 65536 % 256) + 16777216 * (x / 16777216 % 256) + 4294967296 * (x / 4294967296 % 256) + 1099511627776 * (x / 1099511627776 % 256) + 281474976710656 * (x / 281474976710656 % 256) + 72057594037927936 * (x / 72057594037927936 % 256) = x := by omega
theorem le4_sum (x : Nat) (hx : x < 4294967296) : x % 256 + 256 * (x / 256 % 256) + 65536 * (x / 65536 % 256) + 16777216 * (x / 16777216 % 256) = x := by omega
end PF
namespace Go.Proofs.YtlpibeloedfbdaaGreat
open Go.RowKit PF JR
theorem f64from (x : Nat) (w : World) : (callFunc 120 #[.int .u64 x]).run Tryz.prog w = .ok (.value (.float .f64 x)) w := by kernel_rfl
set_option maxHeartbeats 8000000 in
set_option maxRecDepth 100000 in
theorem getU64_c (g o n c : Nat) (b0 b1 b2 b3 b4 b5 b6 b7 : Nat) (h0 : b0 < 256) (h1 : b1 < 256) (h2 : b2 < 256) (h3 : b3 < 256) (h4 : b4 < 256) (h5 : b5 < 256) (h6 : b6 < 256) (h7 : b7 < 256) (w : World) (hn : 8 ≤ n)
    (c0 : w.cell? ⟨g, o, none⟩ = some (.int .u8 b0)) (c1 : w.cell? ⟨g, o + 1, none⟩ = some (.int .u8 b1)) (c2 : w.cell? ⟨g, o + 2, none⟩ = some (.int .u8 b2)) (c3 : w.cell? ⟨g, o + 3, none⟩ = some (.int .u8 b3)) (c4 : w.cell? ⟨g, o + 4, none⟩ = some (.int .u8 b4)) (c5 : w.cell? ⟨g, o + 5, none⟩ = some (.int .u8 b5)) (c6 : w.cell? ⟨g, o + 6, none⟩ = some (.int .u8 b6)) (c7 : w.cell? ⟨g, o + 7, none⟩ = some (.int .u8 b7)) :
    Calls Tryz.prog 124 #[.agg #[], .slice (some ⟨g, o, none⟩) n c] w fun e w' => e = .returned (.int .u64 ((b0 + 256 * b1 + 65536 * b2 + 16777216 * b3 + 4294967296 * b4 + 1099511627776 * b5 + 281474976710656 * b6 + 72057594037927936 * b7 : Nat) : Int)) ∧ Below w.heap.size w w' := by
  have hb : Below w.heap.size w (w.alloc (.cells #[] 120)) := (Below.refl _ w).alloc (Nat.le_refl _) _
  have hg := World.block_lt_of_cell? w _ c0
  have d0 := (hb.cell hg).trans c0
  have d1 := (hb.cell (World.block_lt_of_cell? w _ c1)).trans c1
  have d2 := (hb.cell (World.block_lt_of_cell? w _ c2)).trans c2
  have d3 := (hb.cell (World.block_lt_of_cell? w _ c3)).trans c3
  have d4 := (hb.cell (World.block_lt_of_cell? w _ c4)).trans c4
  have d5 := (hb.cell (World.block_lt_of_cell? w _ c5)).trans c5
  have d6 := (hb.cell (World.block_lt_of_cell? w _ c6)).trans c6
  have d7 := (hb.cell (World.block_lt_of_cell? w _ c7)).trans c7
  have hv : (((b0 + 256 * b1 + 65536 * b2 + 16777216 * b3 + 4294967296 * b4 + 1099511627776 * b5 + 281474976710656 * b6 + 72057594037927936 * b7 : Nat)) : Int) = (b0 : Int) + (b1 : Int) * 256 + (b2 : Int) * 65536 + (b3 : Int) * 16777216 + (b4 : Int) * 4294967296 + (b5 : Int) * 1099511627776 + (b6 : Int) * 281474976710656 + (b7 : Int) * 72057594037927936 := by
    omega
  have q0 : 0 < n := by omega
  have q1 : (1 : Int) < (n : Int) := by omega
  have q2 : (2 : Int) < (n : Int) := by omega
  have q3 : (3 : Int) < (n : Int) := by omega
  have q4 : (4 : Int) < (n : Int) := by omega
  have q5 : (5 : Int) < (n : Int) := by omega
  have q6 : (6 : Int) < (n : Int) := by omega
  have q7 : (7 : Int) < (n : Int) := by omega
  clear c0 c1 c2 c3 c4 c5 c6 c7 hg
  generalize hW : w.alloc (.cells #[] 120) = W at *
  go_enter Tryz.func124, Tryz.ntmps124
  go_upto_region 2 with (fail)
  go_quiet (fail)
  go_wp2
  go_ret
  refine ⟨?_, below_drewN hb _⟩
  simp (disch := omega) only [u64_wrap_id, u64_or8, u64_or16, u64_or24, u64_or32, u64_or40, u64_or48, u64_or56]
  rw [hv]
  rfl
set_option maxHeartbeats 8000000 in
set_option maxRecDepth 100000 in
theorem getU32_c (g o n c : Nat) (b0 b1 b2 b3 : Nat) (h0 : b0 < 256) (h1 : b1 < 256) (h2 : b2 < 256) (h3 : b3 < 256) (w : World) (hn : 4 ≤ n)
    (c0 : w.cell? ⟨g, o, none⟩ = some (.int .u8 b0)) (c1 : w.cell? ⟨g, o + 1, none⟩ = some (.int .u8 b1)) (c2 : w.cell? ⟨g, o + 2, none⟩ = some (.int .u8 b2)) (c3 : w.cell? ⟨g, o + 3, none⟩ = some (.int .u8 b3)) :
    Calls Tryz.prog 108 #[.agg #[], .slice (some ⟨g, o, none⟩) n c] w fun e w' => e = .returned (.int .u32 ((b0 + 256 * b1 + 65536 * b2 + 16777216 * b3 : Nat) : Int)) ∧ Below w.heap.size w w' := by
  have hb : Below w.heap.size w (w.alloc (.cells #[] 120)) := (Below.refl _ w).alloc (Nat.le_refl _) _
  have d0 := (hb.cell (World.block_lt_of_cell? w _ c0)).trans c0
  have d1 := (hb.cell (World.block_lt_of_cell? w _ c1)).trans c1
  have d2 := (hb.cell (World.block_lt_of_cell? w _ c2)).trans c2
  have d3 := (hb.cell (World.block_lt_of_cell? w _ c3)).trans c3
  have hv : (((b0 + 256 * b1 + 65536 * b2 + 16777216 * b3 : Nat)) : Int) = (b0 : Int) + (b1 : Int) * 256 + (b2 : Int) * 65536 + (b3 : Int) * 16777216 := by
    omega
  have q0 : 0 < n := by omega
  have q1 : (1 : Int) < (n : Int) := by omega
  have q2 : (2 : Int) < (n : Int) := by omega
  have q3 : (3 : Int) < (n : Int) := by omega
  clear c0 c1 c2 c3
  go_enter Tryz.func108, Tryz.ntmps108
  go_upto_region 2 with (fail)
  go_quiet (fail)
  go_wp2
  go_ret
  refine ⟨?_, below_drewN hb _⟩
  simp (disch := omega) only [u32_wrap_id, u32_or8, u32_or16, u32_or24]
  rw [hv]
  rfl
/-- a number of one byte -/
theorem readNum_c (g o n c b : Nat) (hb : b < 256) (w : World) (hn : 1 ≤ n) (c0 : w.cell? ⟨g, o, none⟩ = some (.int .u8 b)) :
    Calls Tryz.prog 116 #[.slice (some ⟨g, o, none⟩) n c, .int .u8 1] w fun e w' => e = .returned (.int .u32 b) ∧ w' = w := by
  have q0 : 0 < n := by omega
  have q1 : (0 : Int) < (n : Int) := by omega
  have hw : IntKind.u32.wrap (b : Int) = (b : Int) := wraps_u32 _ (by omega) (by omega)
  go_enter Tryz.func116, Tryz.ntmps116
  go_wp2
  go_ret
  exact ⟨by first | rfl | (rw [hw]; rfl) | go_num, rfl⟩
end Go.Proofs.YtlpibeloedfbdaaGreat
set_option linter.unusedSimpArgs false
set_option linter.unusedVariables false
/-! Search: what a closure makes of the segments that a rectangle meets, in their order. -/
namespace PF
open Go Go.RowKit JR
/-- the segment k, as a value -/
def sgv (l : List (Int × Int)) (k : Nat) : Value := .agg #[fl (fb (at' l k).1), fl (fb (at' l k).2), fl (fb (nxp l k).1), fl (fb (nxp l k).2)]
end PF
namespace Go.Proofs.YtlpibeloedfbdaaGreat
open Go.RowKit PF JR
/-- rectangles and segments stay -/
def KeepT (u u' : World) : Prop := u.heap.size ≤ u'.heap.size ∧ ∀ (k : Nat) (cs : Array Value) (T : TypeId), T = 52 ∨ T = 73 → u.heap[k]? = some (.cells cs T (0, 0)) → u'.heap[k]? = some (.cells cs T (0, 0))
/-- what a search needs: hit k: the rectangle meets segment k; Inv k: what holds before segment k, Stop: what holds once the closure has said no -/
structure SrchOk (F : FuncId) (caps : Array Value) (K : Nat) (closed : Bool) (l : List (Int × Int)) (T : TypeId) (lo hi b : Nat) (ix v' q : Value) (hit : Nat → Bool) (Inv : Nat → World → Prop) (Stop : World → Prop) : Prop where
  len : l.length ≤ 12
  two : 2 ≤ l.length
  ent : ∀ args u, (callFunc F args).run Tryz.prog u = .ok (.enter F args) u
  bnd : ∀ p ∈ l, Bnd p
  blk : lo ≤ b ∧ b < hi
  ser : ∀ k u, Inv k u → IxV K l (nSeg closed l) lo hi u ix ∧ u.heap[b]? = some (.cells (serC K closed l ix v') T (0, 0)) ∧ SlQ lo hi u v' l
  ext : ∀ k u u', Inv k u → Ext u u' → Inv k u'
  exs : ∀ u u', Stop u → Ext u u' → Stop u'
  meet : ∀ k u, k < nSeg closed l → Calls Tryz.prog 25 #[.agg #[fl (fb (sgx l k).1), fl (fb (sgx l k).2.1), fl (fb (sgx l k).2.2.1), fl (fb (sgx l k).2.2.2)], q] u fun e u' => e = .returned (.bool (hit k)) ∧ Below u.heap.size u u'
  step : ∀ k u, k < nSeg closed l → hit k = true → Inv k u → Calls Tryz.prog F (#[sgv l k, .int .i64 k] ++ caps) u fun e u' => ∃ c : Bool, e = .returned (.bool c) ∧ (c = true → Inv (k + 1) u') ∧ (c = false → Stop u') ∧ KeepT u u'
  skip : ∀ k u, k < nSeg closed l → hit k = false → Inv k u → Inv (k + 1) u
theorem SrchOk.skp {F : FuncId} {caps : Array Value} {K : Nat} {closed : Bool} {l : List (Int × Int)} {T : TypeId} {lo hi b : Nat} {ix v' q : Value} {hit : Nat → Bool} {Inv : Nat → World → Prop} {Stop : World → Prop} (H : SrchOk F caps K closed l T lo hi b ix v' q hit Inv Stop) {k : Nat} {u : World} (h : Inv k u) : SkP K closed l T lo hi b u := by
  obtain ⟨h1, h2, h3⟩ := H.ser k u h
  exact ⟨ix, v', h1, H.blk.1, H.blk.2, h2, h3⟩
theorem sgr_x (l : List (Int × Int)) (h : ∀ p ∈ l, Bnd p) (k : Nat) (w : World) : Calls Tryz.prog 46 #[.agg #[fl (fb (at' l k).1), fl (fb (at' l k).2), fl (fb (nxp l k).1), fl (fb (nxp l k).2)]] w fun e w' => e = .returned (.agg #[fl (fb (sgx l k).1), fl (fb (sgx l k).2.1), fl (fb (sgx l k).2.2.1), fl (fb (sgx l k).2.2.2)]) ∧ Below w.heap.size w w' := by
  have h1 := at_bnd h k
  have h2 : Bnd (nxp l k) := at_bnd h _
  have := sgr_c (fb_rep (at' l k).1 (by have := h1.1; omega)) (fb_rep (at' l k).2 (by have := h1.2; omega)) (fb_rep (nxp l k).1 (by have := h2.1; omega)) (fb_rep (nxp l k).2 (by have := h2.2; omega)) w
  rw [min_fb, min_fb, max_fb, max_fb] at this
  exact this
theorem sgat_x {K : Nat} {closed : Bool} {l : List (Int × Int)} {T : TypeId} {lo hi b : Nat} {w : World} (H : SkP K closed l T lo hi b w) (hl : l.length ≤ 1000) (k : Nat) (hk : k < nSeg closed l) :
    Calls Tryz.prog 45 #[.pointer (some ⟨b, 0, none⟩), .int .i64 k] w fun e w' => e = .returned (sgv l k) ∧ Below w.heap.size w w' := by
  obtain ⟨ix, v', -, -, -, h3, h4⟩ := H
  obtain ⟨g1, g2⟩ := seg_pts hk
  exact sgat_c b k lo hi closed l _ _ _ w ⟨h3, rfl, rfl, v', rfl, h4⟩ hl (at_get g1) (at_get g2)
theorem nseg_x {K : Nat} {closed : Bool} {l : List (Int × Int)} {T : TypeId} {lo hi b : Nat} {w : World} (H : SkP K closed l T lo hi b w) (hl : l.length ≤ 1000) (h2 : 2 ≤ l.length) (hb : ∀ p ∈ l, Bnd p) :
    Calls Tryz.prog 44 #[.pointer (some ⟨b, 0, none⟩)] w fun e w' => e = .returned (.int .i64 (nSeg closed l)) ∧ Below w.heap.size w w' := by
  obtain ⟨ix, v', -, -, -, h3, h4⟩ := H
  exact nseg_c b lo hi closed l _ w ⟨h3, rfl, rfl, v', rfl, h4⟩ hl h2 hb
theorem noBytes (w : World) : (Instr.typeAssert .nilIface 20 107 true).run Tryz.prog w = .ok (.tuple #[.slice none 0 0, .bool false]) w := by kernel_rfl
theorem isBytes (a : Option Addr) (n c : Nat) (w : World) : (Instr.typeAssert (.iface 107 (.slice a n c)) 20 107 true).run Tryz.prog w = .ok (.tuple #[.slice a n c, .bool true]) w := by kernel_rfl

set_option maxRecDepth 100000 in
set_option maxHeartbeats 4000000 in
theorem search0_c (F : FuncId) (caps : Array Value) (closed : Bool) (l : List (Int × Int)) (T : TypeId) (lo hi b q0 q1 q2 q3 : Nat) (ix v' : Value) (hit : Nat → Bool) (Inv : Nat → World → Prop) (Stop : World → Prop)
    (H : SrchOk F caps 0 closed l T lo hi b ix v' (.agg #[fl q0, fl q1, fl q2, fl q3]) hit Inv Stop) (w : World) (h0 : Inv 0 w) :
    Calls Tryz.prog 104 #[.pointer (some ⟨b, 0, none⟩), .agg #[fl q0, fl q1, fl q2, fl q3], .func (.func F) #[] caps] w fun e w' => e = .returned (.tuple #[]) ∧ (Inv (nSeg closed l) w' ∨ Stop w') := by
  have hnb := noBytes
  obtain ⟨hix, hrow, -⟩ := H.ser 0 w h0
  obtain ⟨-, rfl⟩ : True ∧ ix = .nilIface := by
    rcases hix with ⟨-, h⟩ | ⟨h, -⟩
    · exact ⟨trivial, h⟩
    · exact absurd rfl h
  have hb1 : Below w.heap.size w (w.alloc (.cells #[fl q0, fl q1, fl q2, fl q3] 52)) := (Below.refl _ w).alloc (Nat.le_refl _) _
  have x4 := cellAt ((hb1.block b (lt_of_some hrow)).trans hrow) 4
  have I1 := H.ext 0 _ _ h0 hb1
  have R1 := heap_alloc_new w (.cells #[fl q0, fl q1, fl q2, fl q3] 52)
  simp only [serC, List.getElem?_toArray, List.getElem?_cons_zero, List.getElem?_cons_succ] at x4
  have hns := nseg_x (H.skp I1) (by have := H.len; omega) H.two H.bnd
  clear hrow hix h0
  generalize hw1 : w.alloc (.cells #[fl q0, fl q1, fl q2, fl q3] 52) = w1 at *
  go_enter Tryz.func104, Tryz.ntmps104
  go_wp2_with (go_at_call 44; refine JR.StopN.out ?_)
  refine ⟨?_⟩
  refine hns.mono ?_
  rintro e w2 ⟨rfl, hb2⟩
  have I2 := H.ext 0 _ _ I1 hb2
  have R2 := (hb2.block _ (lt_of_some R1)).trans R1
  have B2 := hb1.trans (hb2.mono hb1.size)
  clear hns hb2 I1 R1 x4 hnb hb1 hw1
  have hN12 := Nat.le_trans (nSeg_le closed l) H.len
  generalize hN : nSeg closed l = N at *
  generalize hrb : w.heap.size = rb at *
  go_wp2
  go_loopw [8] (fun i wr => ∃ k : Nat, k ≤ N ∧ i = .int .i64 k ∧ Inv k wr ∧ wr.heap[rb]? = some (.cells #[fl q0, fl q1, fl q2, fl q3] 52 (0, 0))) (fun i _ => N - (intOf i).toNat)
  case atStart => exact ⟨0, Nat.zero_le _, rfl, I2, R2⟩
  case round =>
    clear I2 R2 B2
    obtain ⟨k, hk, rfl, I3, R3⟩ := hrel
    rcases Nat.lt_or_ge k N with hlt | hge
    · have hsg := sgat_x (H.skp I3) (by have := H.len; omega) k (by omega)
      have hlt' : (k : Int) < (N : Int) := by omega
      go_wp2_with (go_at_call 45; refine JR.StopN.out ?_)
      refine ⟨?_⟩
      refine hsg.mono ?_
      rintro e w4 ⟨rfl, hb4⟩
      have I4 := H.ext k _ _ I3 hb4
      have R4 := (hb4.block _ (lt_of_some R3)).trans R3
      clear hsg I3 R3 hb4
      unfold sgv
      go_wp2_with (with_reducible refine stop_region ?_)
      refine ⟨?_⟩
      have hal := (Below.refl w4.heap.size w4).alloc (Nat.le_refl _) (.cells #[fl (fb (at' l k).1), fl (fb (at' l k).2), fl (fb (nxp l k).1), fl (fb (nxp l k).2)] 73)
      have V4 := heap_alloc_new w4 (.cells #[fl (fb (at' l k).1), fl (fb (at' l k).2), fl (fb (nxp l k).1), fl (fb (nxp l k).2)] 73)
      have I5 := H.ext k _ _ I4 hal
      have R5 := (hal.block _ (lt_of_some R4)).trans R4
      clear I4 R4 hal
      generalize w4.alloc (.cells #[fl (fb (at' l k).1), fl (fb (at' l k).2), fl (fb (nxp l k).1), fl (fb (nxp l k).2)] 73) = w5 at *
      generalize w4.heap.size = s9 at *
      have W0 := cellAt V4 0
      have W1 := cellAt V4 1
      have W2 := cellAt V4 2
      have W3 := cellAt V4 3
      have Y0 := cellAt R5 0
      have Y1 := cellAt R5 1
      have Y2 := cellAt R5 2
      have Y3 := cellAt R5 3
      simp only [List.getElem?_toArray, List.getElem?_cons_zero, List.getElem?_cons_succ] at W0 W1 W2 W3 Y0 Y1 Y2 Y3
      refine wp_region_K [] [.val (.agg #[fl (fb (at' l k).1), fl (fb (at' l k).2), fl (fb (nxp l k).1), fl (fb (nxp l k).2)]),
          .val (.agg #[fl (fb (sgx l k).1), fl (fb (sgx l k).2.1), fl (fb (sgx l k).2.2.1), fl (fb (sgx l k).2.2.2)]),
          .val (.agg #[fl q0, fl q1, fl q2, fl q3]),
          .val (.bool (hit k))]
        [[.ini 9], [.frm 0 27], [.ini 4], [.frm 1 28, .frm 2 29]]
        mixed (by kernel_rfl) (by kernel_rfl) (allPre_of ⟨trivial, trivial, trivial, trivial, trivial⟩)
        ⟨OpOk.quiet rfl ?_,
          OpOk.call rfl ?_,
          OpOk.quiet rfl ?_,
          OpOk.call rfl ?_, trivial⟩ ?_
      · intro a u hG hf
        simp [facts, Need.fact, Ent.val, Act.eval] at hf
        have a0 := (hG.cell (p := ⟨s9, 0, none⟩) (lt_of_some V4) (by simp)).trans W0
        have a1 := (hG.cell (p := ⟨s9, 1, none⟩) (lt_of_some V4) (by simp)).trans W1
        have a2 := (hG.cell (p := ⟨s9, 2, none⟩) (lt_of_some V4) (by simp)).trans W2
        have a3 := (hG.cell (p := ⟨s9, 3, none⟩) (lt_of_some V4) (by simp)).trans W3
        have r0 := (hG.cell (p := ⟨rb, 0, none⟩) (lt_of_some R5) (by simp)).trans Y0
        have r1 := (hG.cell (p := ⟨rb, 1, none⟩) (lt_of_some R5) (by simp)).trans Y1
        have r2 := (hG.cell (p := ⟨rb, 2, none⟩) (lt_of_some R5) (by simp)).trans Y2
        have r3 := (hG.cell (p := ⟨rb, 3, none⟩) (lt_of_some R5) (by simp)).trans Y3
        go_simp
      · intro a u _ hf
        simp [facts, Need.fact, Ent.val, Act.eval] at hf
        refine ⟨_, _, by go_simp, (sgr_x l H.bnd k _).mono ?_⟩
        rintro e w' ⟨rfl, hb⟩
        exact ⟨_, rfl, hb, rfl⟩
      · intro a u hG hf
        simp [facts, Need.fact, Ent.val, Act.eval] at hf
        have a0 := (hG.cell (p := ⟨s9, 0, none⟩) (lt_of_some V4) (by simp)).trans W0
        have a1 := (hG.cell (p := ⟨s9, 1, none⟩) (lt_of_some V4) (by simp)).trans W1
        have a2 := (hG.cell (p := ⟨s9, 2, none⟩) (lt_of_some V4) (by simp)).trans W2
        have a3 := (hG.cell (p := ⟨s9, 3, none⟩) (lt_of_some V4) (by simp)).trans W3
        have r0 := (hG.cell (p := ⟨rb, 0, none⟩) (lt_of_some R5) (by simp)).trans Y0
        have r1 := (hG.cell (p := ⟨rb, 1, none⟩) (lt_of_some R5) (by simp)).trans Y1
        have r2 := (hG.cell (p := ⟨rb, 2, none⟩) (lt_of_some R5) (by simp)).trans Y2
        have r3 := (hG.cell (p := ⟨rb, 3, none⟩) (lt_of_some R5) (by simp)).trans Y3
        go_simp
      · intro a u _ hf
        simp [facts, Need.fact, Ent.val, Act.eval] at hf
        refine ⟨_, _, by go_simp, (H.meet k _ (by omega)).mono ?_⟩
        rintro e w' ⟨rfl, hb⟩
        exact ⟨_, rfl, hb, rfl⟩
      intro u lw hw wc hKp hE hI hD
      simp only [allE, Ent.val] at hE
      obtain ⟨u0, u1, u2, u3, -⟩ := hE
      simp only [Nat.reduceAdd] at u0 u1 u2 u3
      simp only [allPut, Act.put, Nat.reduceAdd, u0, u1, u2, u3]
      try simp only [List.setIfInBounds_toArray, List.set_cons_zero, List.set_cons_succ]
      clear hI hD u0 u1 u2 u3
      have I6 := H.ext k _ _ I5 hKp.below
      have V6 := (hKp.block _ (lt_of_some V4) (by simp)).trans V4
      have R6 := (hKp.block _ (lt_of_some R5) (by simp)).trans R5
      clear hKp I5 V4 R5 W0 W1 W2 W3 Y0 Y1 Y2 Y3
      have W0 := cellAt V6 0
      have W1 := cellAt V6 1
      have W2 := cellAt V6 2
      have W3 := cellAt V6 3
      simp only [List.getElem?_toArray, List.getElem?_cons_zero, List.getElem?_cons_succ] at W0 W1 W2 W3
      generalize hh : hit k = h at *
      cases h with
      | false =>
        have I7 := H.skip k _ (by omega) hh I6
        clear hh
        go_wp2
        go_roundw
        case rel => exact ⟨k + 1, by omega, by go_num, I7, R6⟩
        case measure => simp [intOf]; omega
      | true =>
        have hst := H.step k _ (by omega) hh I6
        clear hh
        unfold sgv at hst
        go_wp2
        rw [H.ent, Oper.upon_enter]
        refine hst.mono ?_
        rintro e w7 ⟨c, rfl, hi, hs, hk7⟩
        have R7 := hk7.2 _ _ _ (.inl rfl) R6
        clear hst hk7 I6 R6 V6 W0 W1 W2 W3
        cases c with
        | true =>
          have I7 := hi rfl
          clear hi hs
          go_wp2
          go_roundw
          case rel => exact ⟨k + 1, by omega, by go_num, I7, R7⟩
          case measure => simp [intOf]; omega
        | false =>
          have S7 := hs rfl
          clear hi hs
          go_wp2
          exact bodyPost_ret (v := .tuple #[]) (by simp [results, Tryz.results104, go_sem]) rfl ⟨rfl, .inr S7⟩
    · have hkk : k = N := by omega
      subst hkk
      go_wp2
      go_end0
      exact ⟨rfl, .inl (by rw [hN]; exact I3)⟩
end Go.Proofs.YtlpibeloedfbdaaGreat
set_option linter.unusedSimpArgs false
set_option linter.unusedVariables false
/-! Search by the r-tree. -/
namespace PF
open Go Go.RowKit JR
def rpre (fa0 fa1 fa2 fa3 N M : Nat) : List Nat := 1 :: (le4 M ++ (0 :: (le8 fa0 ++ (le8 fa1 ++ (le8 fa2 ++ (le8 fa3 ++ [N, 1]))))))
theorem ixby_r (l : List (Int × Int)) (N : Nat) (hN : N ≠ 0) : ixby 1 l N = rpre (fb (rbx l N).1) (fb (rbx l N).2.1) (fb (rbx l N).2.2.1) (fb (rbx l N).2.2.2) N (40 + N) ++ List.range N := by
  have e : (ixrest 1 l N).length + 5 = 40 + N := by
    unfold ixrest tby rbytes
    rw [if_pos rfl, if_neg hN]
    simp [le8_len]
    omega
  unfold ixby
  rw [e]
  unfold ixrest tby rbytes rpre
  rw [if_pos rfl, if_neg hN]
  simp
theorem ixby_r0 (l : List (Int × Int)) : ixby 1 l 0 = [1, 5, 0, 0, 0] := by simp [ixby, ixrest, tby, le4]
theorem datL {u : World} {g j x : Nat} {P : List Nat} {Q : List Nat} {T : TypeId} (h : u.heap[g]? = some (.cells ((P ++ Q).map byv).toArray T (0, 0))) (hj : P[j]? = some x) : u.cell? ⟨g, j, none⟩ = some (byv x) := by
  refine (cellAt h j).trans ?_
  have hl : j < P.length := by
    rcases Nat.lt_or_ge j P.length with h | h
    · exact h
    · rw [List.getElem?_eq_none h] at hj; cases hj
  rw [List.getElem?_toArray, List.getElem?_map, List.getElem?_append_left hl, hj]
  rfl
theorem datR {u : World} {g i n : Nat} {P : List Nat} {N : Nat} {T : TypeId} {Q : List Nat} (h : u.heap[g]? = some (.cells ((P ++ (List.range N ++ Q)).map byv).toArray T (0, 0))) (hP : P.length = n) (hi : i < N) : u.cell? ⟨g, n + i, none⟩ = some (byv i) := by
  refine (cellAt h _).trans ?_
  subst hP
  rw [List.getElem?_toArray, List.getElem?_map, List.getElem?_append_right (by omega), Nat.add_sub_cancel_left, List.getElem?_append_left (by simpa using hi)]
  simp [hi]
end PF
namespace Go.Proofs.YtlpibeloedfbdaaGreat
open Go.RowKit PF JR
theorem IxV.dat {K : Nat} (hK : K ≠ 0) {l : List (Int × Int)} {N lo hi g m : Nat} {u : World} (h : IxV K l N lo hi u (.iface 107 (.slice (some ⟨g, 0, none⟩) m m))) : u.heap[g]? = some (.cells ((ixby K l N).map byv).toArray 5 (0, 0)) ∧ m = (ixby K l N).length := by
  rcases h with ⟨h, -⟩ | ⟨-, g', e, -, -, h⟩
  · exact absurd h hK
  · simp at e
    obtain ⟨rfl, rfl⟩ := e
    exact ⟨h, rfl⟩
theorem getF_c (g o n c x : Nat) (hx : x < 18446744073709551616) (w : World) (hn : 8 ≤ n)
    (c0 : w.cell? ⟨g, o, none⟩ = some (byv (x % 256))) (c1 : w.cell? ⟨g, o + 1, none⟩ = some (byv (x / 256 % 256))) (c2 : w.cell? ⟨g, o + 2, none⟩ = some (byv (x / 65536 % 256))) (c3 : w.cell? ⟨g, o + 3, none⟩ = some (byv (x / 16777216 % 256))) (c4 : w.cell? ⟨g, o + 4, none⟩ = some (byv (x / 4294967296 % 256))) (c5 : w.cell? ⟨g, o + 5, none⟩ = some (byv (x / 1099511627776 % 256))) (c6 : w.cell? ⟨g, o + 6, none⟩ = some (byv (x / 281474976710656 % 256))) (c7 : w.cell? ⟨g, o + 7, none⟩ = some (byv (x / 72057594037927936 % 256))) :
    Calls Tryz.prog 124 #[.agg #[], .slice (some ⟨g, o, none⟩) n c] w fun e w' => e = .returned (.int .u64 x) ∧ Below w.heap.size w w' := by
  have h := getU64_c g o n c _ _ _ _ _ _ _ _ (by omega) (by omega) (by omega) (by omega) (by omega) (by omega) (by omega) (by omega) w hn c0 c1 c2 c3 c4 c5 c6 c7
  rw [le8_sum x hx] at h
  exact h

set_option maxRecDepth 100000 in
set_option maxHeartbeats 8000000 in
theorem rn_c (F : FuncId) (caps : Array Value) (closed : Bool) (l : List (Int × Int)) (T : TypeId) (lo hi b g m q0 q1 q2 q3 : Nat) (v' : Value) (hit : Nat → Bool) (Inv : Nat → World → Prop) (Stop : World → Prop) (rhit : Bool)
    (H : SrchOk F caps 1 closed l T lo hi b (.iface 107 (.slice (some ⟨g, 0, none⟩) m m)) v' (.agg #[fl q0, fl q1, fl q2, fl q3]) hit Inv Stop)
    (hN0 : nSeg closed l ≠ 0) (hroot : ∀ u, Calls Tryz.prog 25 #[.agg #[fl q0, fl q1, fl q2, fl q3], .agg #[fl (fb (rbx l (nSeg closed l)).1), fl (fb (rbx l (nSeg closed l)).2.1), fl (fb (rbx l (nSeg closed l)).2.2.1), fl (fb (rbx l (nSeg closed l)).2.2.2)]] u fun e u' => e = .returned (.bool rhit) ∧ Below u.heap.size u u')
    (hpr : rhit = false → ∀ k, k < nSeg closed l → hit k = false) (w : World) (h0 : Inv 0 w) :
    Calls Tryz.prog 115 #[.slice (some ⟨g, 0, none⟩) m m, .int .i64 6, .pointer (some ⟨b, 0, none⟩), .agg #[fl q0, fl q1, fl q2, fl q3], .int .i64 0, .func (.func F) #[] caps] w fun e w' => ∃ c : Bool, e = .returned (.bool c) ∧ (c = true → Inv (nSeg closed l) w') ∧ (c = false → Stop w') := by
  have hN12 := Nat.le_trans (nSeg_le closed l) H.len
  have hrd := rbx_bd H.bnd (nSeg closed l)
  have hdat : ∀ k u, Inv k u → u.heap[g]? = some (.cells ((rpre (fb (rbx l (nSeg closed l)).1) (fb (rbx l (nSeg closed l)).2.1) (fb (rbx l (nSeg closed l)).2.2.1) (fb (rbx l (nSeg closed l)).2.2.2) (nSeg closed l) (40 + nSeg closed l) ++ List.range (nSeg closed l)).map byv).toArray 5 (0, 0)) ∧ m = 40 + nSeg closed l := by
    intro k u hI
    obtain ⟨h1, h2⟩ := IxV.dat (by decide) (H.ser k u hI).1
    rw [ixby_r l _ hN0] at h1 h2
    refine ⟨h1, ?_⟩
    rw [h2, List.length_append, List.length_range]
    rfl
  have hm : JR.StopN (m = 40 + nSeg closed l) := ⟨(hdat 0 w h0).2⟩
  have hfa0 := fb_lt _ hrd.1
  have hfa1 := fb_lt _ hrd.2.1
  have hfa2 := fb_lt _ hrd.2.2.1
  have hfa3 := fb_lt _ hrd.2.2.2
  generalize hN : nSeg closed l = N at *
  generalize fb (rbx l N).1 = fa0 at *
  generalize fb (rbx l N).2.1 = fa1 at *
  generalize fb (rbx l N).2.2.1 = fa2 at *
  generalize fb (rbx l N).2.2.2 = fa3 at *
  clear hrd
  have hB1 := ((Below.refl w.heap.size w).alloc (Nat.le_refl _) (.cells #[fl q0, fl q1, fl q2, fl q3] 52)).alloc (by simp) (.cells #[fl 0, fl 0, fl 0, fl 0] 52)
  have st := ((Blk.nil w).push rfl #[fl q0, fl q1, fl q2, fl q3] 52).push (b := w.heap.size + 1) (by simp) #[fl 0, fl 0, fl 0, fl 0] 52
  have hgl : g < w.heap.size := lt_of_some (hdat 0 w h0).1
  have hff := f64from
  have hm40 : 40 ≤ m := by have := hm.out; omega
  have n1 : m ≠ 6 := by omega
  have n2 : m ≠ 14 := by omega
  have n3 : m ≠ 22 := by omega
  have n4 : m ≠ 30 := by omega
  have j1 : (6 : Int) ≤ (m : Int) := by omega
  have j2 : (14 : Int) ≤ (m : Int) := by omega
  have j3 : (22 : Int) ≤ (m : Int) := by omega
  have j4 : (30 : Int) ≤ (m : Int) := by omega
  go_enter Tryz.func115, Tryz.ntmps115
  go_wp2_with (with_reducible refine stop_region ?_)
  refine ⟨?_⟩
  have R9 := st.known 1 _ rfl
  have R13 := st.known 0 _ rfl
  have B := st.hb
  have D := (B.block g hgl).trans (hdat 0 w h0).1
  clear st hB1
  generalize hb13 : w.heap.size + 1 = b13 at *
  have hb9 : w.heap.size < b13 := by omega
  have hgb : g ≠ b13 := by omega
  generalize ((w.alloc _).alloc _) = W at *
  refine wp_region_K [b13] [.val (.agg #[]), .val (.slice (some ⟨g, 0, none⟩) m m), .val (.int .i64 6), .val (.slice (some ⟨g, 6, none⟩) (m - 6) (m - 6)), .val (.int .u64 fa0), .val (fl fa0), .val (.pointer (some ⟨b13, 0, none⟩)), .val (.pointer (some ⟨b13, 0, none⟩)), .turnS b13 #[fl 0, fl 0, fl 0, fl 0] 0 27 52]
    [[], [.ini 0], [.ini 1], [.frm 1 23, .frm 2 24], [.frm 0 22, .frm 3 25], [.frm 4 26], [.ini 13], [.frm 6 28], [.frm 7 29, .frm 5 27, .til 8]]
    mixed (by kernel_rfl) (by kernel_rfl) (allPre_of ⟨trivial, trivial, trivial, trivial, trivial, trivial, trivial, trivial, R13, trivial⟩)
    ⟨OpOk.quiet rfl ?_, OpOk.quiet rfl ?_, OpOk.quiet rfl ?_, OpOk.quiet rfl ?_, OpOk.call rfl ?_, OpOk.quiet rfl ?_, OpOk.quiet rfl ?_, OpOk.quiet rfl ?_,
     OpOk.turnS rfl rfl (lt_of_some R13) ⟨row_still rfl, row_still rfl, row_still rfl, row_still rfl, row_still rfl, row_still rfl, row_still rfl, row_still rfl, row_self rfl, trivial⟩
       (oldFree_of ⟨.inr (fun h => (nomatch h)), .inr (fun h => (nomatch h)), .inr (fun h => (nomatch h)), .inr (fun h => (nomatch h)), .inr (fun h => (nomatch h)), .inr (fun h => (nomatch h)), .inr (fun h => (nomatch h)), .inr (fun h => (nomatch h)), .inl rfl, trivial⟩) (by kernel_rfl) (by simp) ?_ (fun _ _ h => Keep.setRow h (.inr (by simp))), trivial⟩ ?_
  · intro a u _ _
    go_simp
  · intro a u _ hf
    simp [facts, Need.fact, Act.eval] at hf
    go_simp
  · intro a u _ hf
    simp [facts, Need.fact, Act.eval] at hf
    go_simp
  · intro a u _ hf
    simp [facts, Need.fact, Ent.val, Act.eval] at hf
    go_simp
  · intro a u hG hf
    simp [facts, Need.fact, Ent.val, Act.eval] at hf
    have hd := (hG.block g (lt_of_some D) (by simp; omega)).trans D
    refine ⟨_, _, by go_simp, (getF_c g 6 (m - 6) (m - 6) fa0 hfa0 u (by omega) (datL hd rfl) (datL hd rfl) (datL hd rfl) (datL hd rfl) (datL hd rfl) (datL hd rfl) (datL hd rfl) (datL hd rfl)).mono ?_⟩
    rintro e w' ⟨rfl, hb⟩
    exact ⟨_, rfl, hb, rfl⟩
  · intro a u _ hf
    simp [facts, Need.fact, Ent.val, Act.eval] at hf
    go_simp
  · intro a u _ hf
    simp [facts, Need.fact, Act.eval] at hf
    go_simp
  · intro a u _ hf
    simp [facts, Need.fact, Ent.val, Act.eval] at hf
    go_simp
  · intro a u _ hf
    obtain ⟨⟨_, _, f1⟩, ⟨_, _, f2⟩, f4, -⟩ := hf
    exact ⟨f1, by rw [show a.eval (.tmp 27) = fl fa0 from f2]; rfl, f4⟩
  intro uu l' h' wc hK hE hI hD
  obtain ⟨v0, v1, v2, v3, v4, v5, v6, v7, e9, -⟩ := hE
  replace v0 : uu 0 = .agg #[] := v0
  replace v1 : uu 1 = .slice (some ⟨g, 0, none⟩) m m := v1
  replace v2 : uu 2 = .int .i64 6 := v2
  replace v3 : uu 3 = .slice (some ⟨g, 6, none⟩) (m - 6) (m - 6) := v3
  replace v4 : uu 4 = .int .u64 fa0 := v4
  replace v5 : uu 5 = fl fa0 := v5
  replace v6 : uu 6 = .pointer (some ⟨b13, 0, none⟩) := v6
  replace v7 : uu 7 = .pointer (some ⟨b13, 0, none⟩) := v7
  simp [Ent.turnS, allPut, Act.put, Act.eval, Array.setIfInBounds, v5] at e9
  replace R9 := (hK.block w.heap.size (lt_of_some R9) (by simp; omega)).trans R9
  replace D := (hK.block g (lt_of_some D) (by simp; omega)).trans D
  replace B := Keep.belowX (B := w.heap.size) hK B B.size (by intro x hx; simp at hx; omega)
  replace R13 : wc.heap[b13]? = some (.cells #[fl fa0, fl 0, fl 0, fl 0] 52 (0, 0)) := e9
  simp only [allPut, Act.put, v0, v1, v2, v3, v4, v5, v6, v7]
  try simp only [List.setIfInBounds_toArray, List.set_cons_zero, List.set_cons_succ]
  generalize uu 8 = x8
  clear v0 v1 v2 v3 v4 v5 v6 v7 e9 hK hI hD
  go_wp2_with (with_reducible refine stop_region ?_)
  refine ⟨?_⟩
  refine wp_region_K [b13] [.val (.agg #[]), .val (.slice (some ⟨g, 0, none⟩) m m), .val (.int .i64 14), .val (.slice (some ⟨g, 14, none⟩) (m - 14) (m - 14)), .val (.int .u64 fa1), .val (fl fa1), .val (.pointer (some ⟨b13, 0, none⟩)), .val (.pointer (some ⟨b13, 1, none⟩)), .turnS b13 #[fl fa0, fl 0, fl 0, fl 0] 1 37 52]
    [[], [.ini 0], [.ini 1], [.frm 1 33, .frm 2 34], [.frm 0 32, .frm 3 35], [.frm 4 36], [.ini 13], [.frm 6 38], [.frm 7 39, .frm 5 37, .til 8]]
    mixed (by kernel_rfl) (by kernel_rfl) (allPre_of ⟨trivial, trivial, trivial, trivial, trivial, trivial, trivial, trivial, R13, trivial⟩)
    ⟨OpOk.quiet rfl ?_, OpOk.quiet rfl ?_, OpOk.quiet rfl ?_, OpOk.quiet rfl ?_, OpOk.call rfl ?_, OpOk.quiet rfl ?_, OpOk.quiet rfl ?_, OpOk.quiet rfl ?_,
     OpOk.turnS rfl rfl (lt_of_some R13) ⟨row_still rfl, row_still rfl, row_still rfl, row_still rfl, row_still rfl, row_still rfl, row_still rfl, row_still rfl, row_self rfl, trivial⟩
       (oldFree_of ⟨.inr (fun h => (nomatch h)), .inr (fun h => (nomatch h)), .inr (fun h => (nomatch h)), .inr (fun h => (nomatch h)), .inr (fun h => (nomatch h)), .inr (fun h => (nomatch h)), .inr (fun h => (nomatch h)), .inr (fun h => (nomatch h)), .inl rfl, trivial⟩) (by kernel_rfl) (by simp) ?_ (fun _ _ h => Keep.setRow h (.inr (by simp))), trivial⟩ ?_
  · intro a u _ _
    go_simp
  · intro a u _ hf
    simp [facts, Need.fact, Act.eval] at hf
    go_simp
  · intro a u _ hf
    simp [facts, Need.fact, Act.eval] at hf
    go_simp
  · intro a u _ hf
    simp [facts, Need.fact, Ent.val, Act.eval] at hf
    go_simp
  · intro a u hG hf
    simp [facts, Need.fact, Ent.val, Act.eval] at hf
    have hd := (hG.block g (lt_of_some D) (by simp; omega)).trans D
    refine ⟨_, _, by go_simp, (getF_c g 14 (m - 14) (m - 14) fa1 hfa1 u (by omega) (datL hd rfl) (datL hd rfl) (datL hd rfl) (datL hd rfl) (datL hd rfl) (datL hd rfl) (datL hd rfl) (datL hd rfl)).mono ?_⟩
    rintro e w' ⟨rfl, hb⟩
    exact ⟨_, rfl, hb, rfl⟩
  · intro a u _ hf
    simp [facts, Need.fact, Ent.val, Act.eval] at hf
    go_simp
  · intro a u _ hf
    simp [facts, Need.fact, Act.eval] at hf
    go_simp
  · intro a u _ hf
    simp [facts, Need.fact, Ent.val, Act.eval] at hf
    go_simp
  · intro a u _ hf
    obtain ⟨⟨_, _, f1⟩, ⟨_, _, f2⟩, f4, -⟩ := hf
    exact ⟨f1, by rw [show a.eval (.tmp 37) = fl fa1 from f2]; rfl, f4⟩
  intro uu l' h' wc hK hE hI hD
  obtain ⟨v0, v1, v2, v3, v4, v5, v6, v7, e9, -⟩ := hE
  replace v0 : uu 0 = .agg #[] := v0
  replace v1 : uu 1 = .slice (some ⟨g, 0, none⟩) m m := v1
  replace v2 : uu 2 = .int .i64 14 := v2
  replace v3 : uu 3 = .slice (some ⟨g, 14, none⟩) (m - 14) (m - 14) := v3
  replace v4 : uu 4 = .int .u64 fa1 := v4
  replace v5 : uu 5 = fl fa1 := v5
  replace v6 : uu 6 = .pointer (some ⟨b13, 0, none⟩) := v6
  replace v7 : uu 7 = .pointer (some ⟨b13, 1, none⟩) := v7
  simp [Ent.turnS, allPut, Act.put, Act.eval, Array.setIfInBounds, v5] at e9
  replace R9 := (hK.block w.heap.size (lt_of_some R9) (by simp; omega)).trans R9
  replace D := (hK.block g (lt_of_some D) (by simp; omega)).trans D
  replace B := Keep.belowX (B := w.heap.size) hK B B.size (by intro x hx; simp at hx; omega)
  replace R13 : wc.heap[b13]? = some (.cells #[fl fa0, fl fa1, fl 0, fl 0] 52 (0, 0)) := e9
  simp only [allPut, Act.put, v0, v1, v2, v3, v4, v5, v6, v7]
  try simp only [List.setIfInBounds_toArray, List.set_cons_zero, List.set_cons_succ]
  generalize uu 8 = x8
  clear v0 v1 v2 v3 v4 v5 v6 v7 e9 hK hI hD
  go_wp2_with (with_reducible refine stop_region ?_)
  refine ⟨?_⟩
  refine wp_region_K [b13] [.val (.agg #[]), .val (.slice (some ⟨g, 0, none⟩) m m), .val (.int .i64 22), .val (.slice (some ⟨g, 22, none⟩) (m - 22) (m - 22)), .val (.int .u64 fa2), .val (fl fa2), .val (.pointer (some ⟨b13, 2, none⟩)), .val (.pointer (some ⟨b13, 2, none⟩)), .turnS b13 #[fl fa0, fl fa1, fl 0, fl 0] 2 47 52]
    [[], [.ini 0], [.ini 1], [.frm 1 43, .frm 2 44], [.frm 0 42, .frm 3 45], [.frm 4 46], [.ini 13], [.frm 6 48], [.frm 7 49, .frm 5 47, .til 8]]
    mixed (by kernel_rfl) (by kernel_rfl) (allPre_of ⟨trivial, trivial, trivial, trivial, trivial, trivial, trivial, trivial, R13, trivial⟩)
    ⟨OpOk.quiet rfl ?_, OpOk.quiet rfl ?_, OpOk.quiet rfl ?_, OpOk.quiet rfl ?_, OpOk.call rfl ?_, OpOk.quiet rfl ?_, OpOk.quiet rfl ?_, OpOk.quiet rfl ?_,
     OpOk.turnS rfl rfl (lt_of_some R13) ⟨row_still rfl, row_still rfl, row_still rfl, row_still rfl, row_still rfl, row_still rfl, row_still rfl, row_still rfl, row_self rfl, trivial⟩
       (oldFree_of ⟨.inr (fun h => (nomatch h)), .inr (fun h => (nomatch h)), .inr (fun h => (nomatch h)), .inr (fun h => (nomatch h)), .inr (fun h => (nomatch h)), .inr (fun h => (nomatch h)), .inr (fun h => (nomatch h)), .inr (fun h => (nomatch h)), .inl rfl, trivial⟩) (by kernel_rfl) (by simp) ?_ (fun _ _ h => Keep.setRow h (.inr (by simp))), trivial⟩ ?_
  · intro a u _ _
    go_simp
  · intro a u _ hf
    simp [facts, Need.fact, Act.eval] at hf
    go_simp
  · intro a u _ hf
    simp [facts, Need.fact, Act.eval] at hf
    go_simp
  · intro a u _ hf
    simp [facts, Need.fact, Ent.val, Act.eval] at hf
    go_simp
  · intro a u hG hf
    simp [facts, Need.fact, Ent.val, Act.eval] at hf
    have hd := (hG.block g (lt_of_some D) (by simp; omega)).trans D
    refine ⟨_, _, by go_simp, (getF_c g 22 (m - 22) (m - 22) fa2 hfa2 u (by omega) (datL hd rfl) (datL hd rfl) (datL hd rfl) (datL hd rfl) (datL hd rfl) (datL hd rfl) (datL hd rfl) (datL hd rfl)).mono ?_⟩
    rintro e w' ⟨rfl, hb⟩
    exact ⟨_, rfl, hb, rfl⟩
  · intro a u _ hf
    simp [facts, Need.fact, Ent.val, Act.eval] at hf
    go_simp
  · intro a u _ hf
    simp [facts, Need.fact, Act.eval] at hf
    go_simp
  · intro a u _ hf
    simp [facts, Need.fact, Ent.val, Act.eval] at hf
    go_simp
  · intro a u _ hf
    obtain ⟨⟨_, _, f1⟩, ⟨_, _, f2⟩, f4, -⟩ := hf
    exact ⟨f1, by rw [show a.eval (.tmp 47) = fl fa2 from f2]; rfl, f4⟩
  intro uu l' h' wc hK hE hI hD
  obtain ⟨v0, v1, v2, v3, v4, v5, v6, v7, e9, -⟩ := hE
  replace v0 : uu 0 = .agg #[] := v0
  replace v1 : uu 1 = .slice (some ⟨g, 0, none⟩) m m := v1
  replace v2 : uu 2 = .int .i64 22 := v2
  replace v3 : uu 3 = .slice (some ⟨g, 22, none⟩) (m - 22) (m - 22) := v3
  replace v4 : uu 4 = .int .u64 fa2 := v4
  replace v5 : uu 5 = fl fa2 := v5
  replace v6 : uu 6 = .pointer (some ⟨b13, 2, none⟩) := v6
  replace v7 : uu 7 = .pointer (some ⟨b13, 2, none⟩) := v7
  simp [Ent.turnS, allPut, Act.put, Act.eval, Array.setIfInBounds, v5] at e9
  replace R9 := (hK.block w.heap.size (lt_of_some R9) (by simp; omega)).trans R9
  replace D := (hK.block g (lt_of_some D) (by simp; omega)).trans D
  replace B := Keep.belowX (B := w.heap.size) hK B B.size (by intro x hx; simp at hx; omega)
  replace R13 : wc.heap[b13]? = some (.cells #[fl fa0, fl fa1, fl fa2, fl 0] 52 (0, 0)) := e9
  simp only [allPut, Act.put, v0, v1, v2, v3, v4, v5, v6, v7]
  try simp only [List.setIfInBounds_toArray, List.set_cons_zero, List.set_cons_succ]
  generalize uu 8 = x8
  clear v0 v1 v2 v3 v4 v5 v6 v7 e9 hK hI hD
  go_wp2_with (with_reducible refine stop_region ?_)
  refine ⟨?_⟩
  refine wp_region_K [b13] [.val (.agg #[]), .val (.slice (some ⟨g, 0, none⟩) m m), .val (.int .i64 30), .val (.slice (some ⟨g, 30, none⟩) (m - 30) (m - 30)), .val (.int .u64 fa3), .val (fl fa3), .val (.pointer (some ⟨b13, 2, none⟩)), .val (.pointer (some ⟨b13, 3, none⟩)), .turnS b13 #[fl fa0, fl fa1, fl fa2, fl 0] 3 57 52]
    [[], [.ini 0], [.ini 1], [.frm 1 53, .frm 2 54], [.frm 0 52, .frm 3 55], [.frm 4 56], [.ini 13], [.frm 6 58], [.frm 7 59, .frm 5 57, .til 8]]
    mixed (by kernel_rfl) (by kernel_rfl) (allPre_of ⟨trivial, trivial, trivial, trivial, trivial, trivial, trivial, trivial, R13, trivial⟩)
    ⟨OpOk.quiet rfl ?_, OpOk.quiet rfl ?_, OpOk.quiet rfl ?_, OpOk.quiet rfl ?_, OpOk.call rfl ?_, OpOk.quiet rfl ?_, OpOk.quiet rfl ?_, OpOk.quiet rfl ?_,
     OpOk.turnS rfl rfl (lt_of_some R13) ⟨row_still rfl, row_still rfl, row_still rfl, row_still rfl, row_still rfl, row_still rfl, row_still rfl, row_still rfl, row_self rfl, trivial⟩
       (oldFree_of ⟨.inr (fun h => (nomatch h)), .inr (fun h => (nomatch h)), .inr (fun h => (nomatch h)), .inr (fun h => (nomatch h)), .inr (fun h => (nomatch h)), .inr (fun h => (nomatch h)), .inr (fun h => (nomatch h)), .inr (fun h => (nomatch h)), .inl rfl, trivial⟩) (by kernel_rfl) (by simp) ?_ (fun _ _ h => Keep.setRow h (.inr (by simp))), trivial⟩ ?_
  · intro a u _ _
    go_simp
  · intro a u _ hf
    simp [facts, Need.fact, Act.eval] at hf
    go_simp
  · intro a u _ hf
    simp [facts, Need.fact, Act.eval] at hf
    go_simp
  · intro a u _ hf
    simp [facts, Need.fact, Ent.val, Act.eval] at hf
    go_simp
  · intro a u hG hf
    simp [facts, Need.fact, Ent.val, Act.eval] at hf
    have hd := (hG.block g (lt_of_some D) (by simp; omega)).trans D
    refine ⟨_, _, by go_simp, (getF_c g 30 (m - 30) (m - 30) fa3 hfa3 u (by omega) (datL hd rfl) (datL hd rfl) (datL hd rfl) (datL hd rfl) (datL hd rfl) (datL hd rfl) (datL hd rfl) (datL hd rfl)).mono ?_⟩
    rintro e w' ⟨rfl, hb⟩
    exact ⟨_, rfl, hb, rfl⟩
  · intro a u _ hf
    simp [facts, Need.fact, Ent.val, Act.eval] at hf
    go_simp
  · intro a u _ hf
    simp [facts, Need.fact, Act.eval] at hf
    go_simp
  · intro a u _ hf
    simp [facts, Need.fact, Ent.val, Act.eval] at hf
    go_simp
  · intro a u _ hf
    obtain ⟨⟨_, _, f1⟩, ⟨_, _, f2⟩, f4, -⟩ := hf
    exact ⟨f1, by rw [show a.eval (.tmp 57) = fl fa3 from f2]; rfl, f4⟩
  intro uu l' h' wc hK hE hI hD
  obtain ⟨v0, v1, v2, v3, v4, v5, v6, v7, e9, -⟩ := hE
  replace v0 : uu 0 = .agg #[] := v0
  replace v1 : uu 1 = .slice (some ⟨g, 0, none⟩) m m := v1
  replace v2 : uu 2 = .int .i64 30 := v2
  replace v3 : uu 3 = .slice (some ⟨g, 30, none⟩) (m - 30) (m - 30) := v3
  replace v4 : uu 4 = .int .u64 fa3 := v4
  replace v5 : uu 5 = fl fa3 := v5
  replace v6 : uu 6 = .pointer (some ⟨b13, 2, none⟩) := v6
  replace v7 : uu 7 = .pointer (some ⟨b13, 3, none⟩) := v7
  simp [Ent.turnS, allPut, Act.put, Act.eval, Array.setIfInBounds, v5] at e9
  replace R9 := (hK.block w.heap.size (lt_of_some R9) (by simp; omega)).trans R9
  replace D := (hK.block g (lt_of_some D) (by simp; omega)).trans D
  replace B := Keep.belowX (B := w.heap.size) hK B B.size (by intro x hx; simp at hx; omega)
  replace R13 : wc.heap[b13]? = some (.cells #[fl fa0, fl fa1, fl fa2, fl fa3] 52 (0, 0)) := e9
  simp only [allPut, Act.put, v0, v1, v2, v3, v4, v5, v6, v7]
  try simp only [List.setIfInBounds_toArray, List.set_cons_zero, List.set_cons_succ]
  generalize uu 8 = x8
  clear v0 v1 v2 v3 v4 v5 v6 v7 e9 hK hI hD
  have I3 : Inv 0 wc := H.ext 0 w wc h0 B
  have hb13l := lt_of_some R13
  have hP38 : ∀ k u, Inv k u → u.cell? ⟨g, 38, none⟩ = some (.int .u8 N) ∧ u.cell? ⟨g, 39, none⟩ = some (.int .u8 (1 : Nat)) ∧ ∀ i, i < N → u.cell? ⟨g, 40 + i, none⟩ = some (.int .u8 i) := by
    intro k u hI
    have hd := (hdat k u hI).1
    refine ⟨datL hd rfl, datL hd rfl, fun i hi => ?_⟩
    have hd' : u.heap[g]? = some (.cells ((rpre fa0 fa1 fa2 fa3 N (40 + N) ++ (List.range N ++ [])).map byv).toArray 5 (0, 0)) := by rw [List.append_nil]; exact hd
    exact datR hd' rfl hi
  have Y0 := cellAt R9 0
  have Y1 := cellAt R9 1
  have Y2 := cellAt R9 2
  have Y3 := cellAt R9 3
  have Z0 := cellAt R13 0
  have Z1 := cellAt R13 1
  have Z2 := cellAt R13 2
  have Z3 := cellAt R13 3
  simp only [List.getElem?_toArray, List.getElem?_cons_zero, List.getElem?_cons_succ] at Y0 Y1 Y2 Y3 Z0 Z1 Z2 Z3
  clear D R13 hfa0 hfa1 hfa2 hfa3 hgb hff n1 n2 n3 n4 j1 j2 j3 j4 x8
  go_wp2_with (go_at_call 25; refine JR.StopN.out ?_)
  refine ⟨?_⟩
  refine (hroot wc).mono ?_
  rintro e w3 ⟨rfl, hb3⟩
  have I4 := H.ext 0 _ _ I3 hb3
  have R4 := (hb3.block _ (lt_of_some R9)).trans R9
  clear hb3 I3 R9 Y0 Y1 Y2 Y3 Z0 Z1 Z2 Z3 hroot hb13l B
  cases rhit with
  | false =>
    have hsk : ∀ k, k ≤ N → Inv k w3 := by
      intro k
      induction k with
      | zero => intro _; exact I4
      | succ k ih => intro hk; exact H.skip k _ (by omega) (hpr rfl k (by omega)) (ih (by omega))
    clear hP38
    go_wp2
    go_ret
    exact ⟨true, rfl, fun _ => hsk N (Nat.le_refl _), fun h => (nomatch h)⟩
  | true =>
    obtain ⟨p38, p39, -⟩ := hP38 0 _ I4
    have k38 : (38 : Int) < (m : Int) := by omega
    have k39 : (39 : Int) < (m : Int) := by have := hm.out; omega
    generalize hrb : w.heap.size = rb at *
    go_wp2
    go_loopw [1, 16] (fun ad i wr => ∃ k : Nat, k ≤ N ∧ ad = .int .i64 (40 + k : Nat) ∧ i = .int .i64 k ∧ Inv k wr ∧ wr.heap[rb]? = some (.cells #[fl q0, fl q1, fl q2, fl q3] 52 (0, 0))) (fun _ i _ => N - (intOf i).toNat)
    case atStart => exact ⟨0, Nat.zero_le _, rfl, rfl, I4, R4⟩
    case round =>
      clear I4 R4 p38 p39 h0 hdat
      obtain ⟨k, hk, rfl, rfl, I5, R5⟩ := hrel
      rcases Nat.lt_or_ge k N with hlt | hge
      · have hlt' : (k : Int) < (N : Int) := by omega
        have hm' := hm.out
        have a1 : ((40 + k : Nat) : Int) ≤ (m : Int) := by omega
        have a2 : m ≠ 40 + k := by omega
        have p40 := (hP38 k _ I5).2.2 k hlt
        have hrn := readNum_c g (40 + k) (m - (40 + k)) (m - (40 + k)) k (by omega) wr (by omega) p40
        clear hm'
        generalize hak : 40 + k = ak at *
        replace hak : JR.StopN (40 + k = ak) := ⟨hak⟩
        go_wp2_with (go_at_call 116; refine JR.StopN.out ?_)
        refine ⟨?_⟩
        refine hrn.mono ?_
        rintro e w6 ⟨rfl, rfl⟩
        have hsg := sgat_x (H.skp I5) (by have := H.len; omega) k (by omega)
        have hak2 : ((ak : Int) + 1) = ((40 + (k + 1) : Nat) : Int) := by have := hak.out; omega
        have akb : ak ≤ 60 := by have := hak.out; omega
        generalize hak3 : 40 + (k + 1) = ak1 at *
        clear hrn p40
        go_wp2_with (go_at_call 45; refine JR.StopN.out ?_)
        refine ⟨?_⟩
        refine hsg.mono ?_
        rintro e w7 ⟨rfl, hb7⟩
        have I7 := H.ext k _ _ I5 hb7
        have R7 := (hb7.block _ (lt_of_some R5)).trans R5
        clear hsg I5 R5 hb7
        unfold sgv
        have hal := (Below.refl w7.heap.size w7).alloc (Nat.le_refl _) (.cells #[fl (fb (at' l k).1), fl (fb (at' l k).2), fl (fb (nxp l k).1), fl (fb (nxp l k).2)] 73)
        have V8 := heap_alloc_new w7 (.cells #[fl (fb (at' l k).1), fl (fb (at' l k).2), fl (fb (nxp l k).1), fl (fb (nxp l k).2)] 73)
        have I8 := H.ext k _ _ I7 hal
        have R8 := (hal.block _ (lt_of_some R7)).trans R7
        clear I7 R7 hal
        go_wp2_with (go_at_call 46; refine JR.StopN.out ?_)
        refine ⟨?_⟩
        refine (sgr_x l H.bnd k _).mono ?_
        rintro e w9 ⟨rfl, hb9⟩
        have hal := (Below.refl w9.heap.size w9).alloc (Nat.le_refl _) (.cells #[fl (fb (sgx l k).1), fl (fb (sgx l k).2.1), fl (fb (sgx l k).2.2.1), fl (fb (sgx l k).2.2.2)] 52)
        have hh := hb9.trans (hal.mono hb9.size)
        have I10 := H.ext k _ _ I8 hh
        have R10 := (hh.block _ (lt_of_some R8)).trans R8
        have V10 := (hh.block _ (lt_of_some V8)).trans V8
        have U10 := heap_alloc_new w9 (.cells #[fl (fb (sgx l k).1), fl (fb (sgx l k).2.1), fl (fb (sgx l k).2.2.1), fl (fb (sgx l k).2.2.2)] 52)
        clear hb9 hal hh I8 R8 V8
        have Y0 := cellAt R10 0
        have Y1 := cellAt R10 1
        have Y2 := cellAt R10 2
        have Y3 := cellAt R10 3
        simp only [List.getElem?_toArray, List.getElem?_cons_zero, List.getElem?_cons_succ] at Y0 Y1 Y2 Y3
        generalize hsx0 : fb (sgx l k).1 = s0 at *
        generalize hsx1 : fb (sgx l k).2.1 = s1 at *
        generalize hsx2 : fb (sgx l k).2.2.1 = s2 at *
        generalize hsx3 : fb (sgx l k).2.2.2 = s3 at *
        have hmt := H.meet k (w9.alloc (.cells #[fl s0, fl s1, fl s2, fl s3] 52)) (by omega)
        rw [hsx0, hsx1, hsx2, hsx3] at hmt
        clear hsx0 hsx1 hsx2 hsx3
        go_wp2_with (go_at_call 25; refine JR.StopN.out ?_)
        refine ⟨?_⟩
        refine hmt.mono ?_
        rintro e w11 ⟨rfl, hb11⟩
        have I11 := H.ext k _ _ I10 hb11
        have R11 := (hb11.block _ (lt_of_some R10)).trans R10
        have V11 := (hb11.block _ (lt_of_some V10)).trans V10
        clear hmt hb11 I10 R10 V10 U10 Y0 Y1 Y2 Y3
        have W0 := cellAt V11 0
        have W1 := cellAt V11 1
        have W2 := cellAt V11 2
        have W3 := cellAt V11 3
        simp only [List.getElem?_toArray, List.getElem?_cons_zero, List.getElem?_cons_succ] at W0 W1 W2 W3
        generalize hh : hit k = h at *
        cases h with
        | false =>
          have I7 := H.skip k _ (by omega) hh I11
          clear hh
          go_wp2
          go_roundw
          case rel => exact ⟨k + 1, by omega, by rw [hak3, ← hak2], by go_num, I7, R11⟩
          case measure => simp [intOf]; omega
        | true =>
          have hst := H.step k _ (by omega) hh I11
          clear hh
          unfold sgv at hst
          go_wp2
          rw [H.ent, Oper.upon_enter]
          refine hst.mono ?_
          rintro e w12 ⟨c, rfl, hi, hs, hk7⟩
          have R12 := hk7.2 _ _ _ (.inl rfl) R11
          clear hst hk7 I11 R11 V11 W0 W1 W2 W3
          cases c with
          | true =>
            have I7 := hi rfl
            clear hi hs
            go_wp2
            go_roundw
            case rel => exact ⟨k + 1, by omega, by rw [hak3, ← hak2], by go_num, I7, R12⟩
            case measure => simp [intOf]; omega
          | false =>
            have S7 := hs rfl
            clear hi hs
            go_wp2
            go_ret
            exact ⟨false, rfl, fun h => (nomatch h), fun _ => S7⟩
      · have hkk : k = N := by omega
        subst hkk
        clear hP38
        go_wp2
        go_ret
        exact ⟨true, rfl, fun _ => I5, fun h => (nomatch h)⟩

theorem SrchOk.all {F : FuncId} {caps : Array Value} {K : Nat} {closed : Bool} {l : List (Int × Int)} {T : TypeId} {lo hi b : Nat} {ix v' q : Value} {hit : Nat → Bool} {Inv : Nat → World → Prop} {Stop : World → Prop} (H : SrchOk F caps K closed l T lo hi b ix v' q hit Inv Stop) (hno : ∀ k, k < nSeg closed l → hit k = false) {u : World} (h : Inv 0 u) : ∀ k, k ≤ nSeg closed l → Inv k u := by
  intro k
  induction k with
  | zero => intro _; exact h
  | succ k ih => intro hk; exact H.skip k _ (by omega) (hno k (by omega)) (ih (by omega))
set_option maxRecDepth 100000 in
set_option maxHeartbeats 8000000 in
theorem rc_c (F : FuncId) (caps : Array Value) (closed : Bool) (l : List (Int × Int)) (T : TypeId) (lo hi b g m q0 q1 q2 q3 : Nat) (v' : Value) (hit : Nat → Bool) (Inv : Nat → World → Prop) (Stop : World → Prop) (rhit : Bool)
    (H : SrchOk F caps 1 closed l T lo hi b (.iface 107 (.slice (some ⟨g, 0, none⟩) m m)) v' (.agg #[fl q0, fl q1, fl q2, fl q3]) hit Inv Stop)
    (hroot : nSeg closed l ≠ 0 → ∀ u, Calls Tryz.prog 25 #[.agg #[fl q0, fl q1, fl q2, fl q3], .agg #[fl (fb (rbx l (nSeg closed l)).1), fl (fb (rbx l (nSeg closed l)).2.1), fl (fb (rbx l (nSeg closed l)).2.2.1), fl (fb (rbx l (nSeg closed l)).2.2.2)]] u fun e u' => e = .returned (.bool rhit) ∧ Below u.heap.size u u')
    (hpr : rhit = false → ∀ k, k < nSeg closed l → hit k = false) (w : World) (h0 : Inv 0 w) :
    Calls Tryz.prog 109 #[.slice (some ⟨g, 0, none⟩) m m, .int .i64 5, .pointer (some ⟨b, 0, none⟩), .agg #[fl q0, fl q1, fl q2, fl q3], .func (.func F) #[] caps] w fun e w' => ∃ c : Bool, e = .returned (.bool c) ∧ (c = true → Inv (nSeg closed l) w') ∧ (c = false → Stop w') := by
  have hb1 := (Below.refl w.heap.size w).alloc (Nat.le_refl _) (.cells #[fl q0, fl q1, fl q2, fl q3] 52)
  have I1 := H.ext 0 _ _ h0 hb1
  have R1 := heap_alloc_new w (.cells #[fl q0, fl q1, fl q2, fl q3] 52)
  obtain ⟨d1, d2⟩ := IxV.dat (by decide) (H.ser 0 _ I1).1
  by_cases hN0 : nSeg closed l = 0
  · rw [hN0] at d2
    rw [ixby_r0] at d2
    have d3 : m = 5 := d2
    clear d1 d2 hb1 R1
    subst d3
    go_enter Tryz.func109, Tryz.ntmps109
    go_wp2
    go_ret
    exact ⟨true, rfl, fun _ => by rw [hN0]; exact I1, fun h => (nomatch h)⟩
  · have hrn := fun w h => rn_c F caps closed l T lo hi b g m q0 q1 q2 q3 v' hit Inv Stop rhit H hN0 (hroot hN0) hpr w h
    rw [ixby_r _ _ hN0] at d1 d2
    have p5 : (w.alloc (.cells #[fl q0, fl q1, fl q2, fl q3] 52)).cell? ⟨g, 5, none⟩ = some (.int .u8 (0 : Nat)) := datL d1 rfl
    have hm : JR.StopN (m = 40 + nSeg closed l) := ⟨by rw [d2, List.length_append, List.length_range]; rfl⟩
    have k5 : (5 : Int) < (m : Int) := by have := hm.out; omega
    have k5' : (5 : Int) ≠ (m : Int) := by omega
    have Y0 := cellAt R1 0
    have Y1 := cellAt R1 1
    have Y2 := cellAt R1 2
    have Y3 := cellAt R1 3
    simp only [List.getElem?_toArray, List.getElem?_cons_zero, List.getElem?_cons_succ] at Y0 Y1 Y2 Y3
    clear d1 d2 hb1 R1 hroot hpr
    go_enter Tryz.func109, Tryz.ntmps109
    go_wp2_with (go_at_call 115; refine JR.StopN.out ?_)
    refine ⟨?_⟩
    refine (hrn _ I1).mono ?_
    rintro e w2 ⟨c, rfl, h1, h2⟩
    clear hrn I1 p5 Y0 Y1 Y2 Y3
    go_wp2
    go_ret
    exact ⟨c, rfl, h1, h2⟩
end Go.Proofs.YtlpibeloedfbdaaGreat
set_option linter.unusedSimpArgs false
set_option linter.unusedVariables false
/-! Search by the quad tree; Search with any index. -/
namespace PF
open Go Go.RowKit JR
def qpre (N M : Nat) : List Nat := 2 :: (le4 M ++ [1, N])
theorem ixby_q (l : List (Int × Int)) (N : Nat) : ixby 2 l N = qpre N (8 + N) ++ (List.range N ++ [0]) := by
  have e : (ixrest 2 l N).length + 5 = 8 + N := by
    unfold ixrest qbytes
    rw [if_neg (by decide)]
    simp
    omega
  unfold ixby
  rw [e]
  unfold ixrest qbytes qpre
  rw [if_neg (by decide)]
  simp
theorem datE {u : World} {g x n : Nat} {P : List Nat} {N : Nat} {T : TypeId} (h : u.heap[g]? = some (.cells ((P ++ (List.range N ++ [x])).map byv).toArray T (0, 0))) (hP : P.length = n) : u.cell? ⟨g, n + N, none⟩ = some (byv x) := by
  refine (cellAt h _).trans ?_
  subst hP
  rw [List.getElem?_toArray, List.getElem?_map, List.getElem?_append_right (by omega), Nat.add_sub_cancel_left, List.getElem?_append_right (by simp)]
  simp
end PF
namespace Go.Proofs.YtlpibeloedfbdaaGreat
open Go.RowKit PF JR
set_option maxRecDepth 100000 in
set_option maxHeartbeats 8000000 in
theorem qc_c (F : FuncId) (caps : Array Value) (closed : Bool) (l : List (Int × Int)) (T : TypeId) (lo hi b g m q0 q1 q2 q3 t0 t1 t2 t3 : Nat) (v' : Value) (hit : Nat → Bool) (Inv : Nat → World → Prop) (Stop : World → Prop)
    (H : SrchOk F caps 2 closed l T lo hi b (.iface 107 (.slice (some ⟨g, 0, none⟩) m m)) v' (.agg #[fl q0, fl q1, fl q2, fl q3]) hit Inv Stop) (w : World) (h0 : Inv 0 w) :
    Calls Tryz.prog 110 #[.slice (some ⟨g, 0, none⟩) m m, .int .i64 5, .pointer (some ⟨b, 0, none⟩), .agg #[fl t0, fl t1, fl t2, fl t3], .agg #[fl q0, fl q1, fl q2, fl q3], .func (.func F) #[] caps] w fun e w' => ∃ c : Bool, e = .returned (.bool c) ∧ (c = true → Inv (nSeg closed l) w') ∧ (c = false → Stop w') := by
  have hN12 := Nat.le_trans (nSeg_le closed l) H.len
  have hdat : ∀ k u, Inv k u → u.heap[g]? = some (.cells ((qpre (nSeg closed l) (8 + nSeg closed l) ++ (List.range (nSeg closed l) ++ [0])).map byv).toArray 5 (0, 0)) ∧ m = 8 + nSeg closed l := by
    intro k u hI
    obtain ⟨h1, h2⟩ := IxV.dat (by decide) (H.ser k u hI).1
    rw [ixby_q l _] at h1 h2
    refine ⟨h1, ?_⟩
    rw [h2, List.length_append, List.length_append, List.length_range]
    simp [qpre, le4]
    omega
  have hm : JR.StopN (m = 8 + nSeg closed l) := ⟨(hdat 0 w h0).2⟩
  generalize hN : nSeg closed l = N at *
  have hP38 : ∀ k u, Inv k u → u.cell? ⟨g, 5, none⟩ = some (.int .u8 (1 : Nat)) ∧ u.cell? ⟨g, 6, none⟩ = some (.int .u8 N) ∧ (∀ i, i < N → u.cell? ⟨g, 7 + i, none⟩ = some (.int .u8 i)) ∧ u.cell? ⟨g, 7 + N, none⟩ = some (.int .u8 (0 : Nat)) := by
    intro k u hI
    have hd := (hdat k u hI).1
    exact ⟨datL hd rfl, datL hd rfl, fun i hi => datR hd rfl hi, datE hd rfl⟩
  have st := ((Blk.nil w).push rfl #[fl t0, fl t1, fl t2, fl t3] 52).push (b := w.heap.size + 1) (by simp) #[fl q0, fl q1, fl q2, fl q3] 52
  have I4 := H.ext 0 _ _ h0 st.hb
  have R4 := st.known 0 _ rfl
  obtain ⟨p5, p6, -, -⟩ := hP38 0 _ I4
  have k5 : (5 : Int) < (m : Int) := by have := hm.out; omega
  have k6 : (6 : Int) ≤ (m : Int) := by omega
  have k6' : m ≠ 6 := by have := hm.out; omega
  have hrn0 := readNum_c g 6 (m - 6) (m - 6) N (by omega) _ (by have := hm.out; omega) p6
  clear st hdat h0
  generalize hw0 : ((w.alloc (.cells #[fl t0, fl t1, fl t2, fl t3] 52)).alloc (.cells #[fl q0, fl q1, fl q2, fl q3] 52)) = w0 at *
  generalize hrb : w.heap.size + 1 = rb at *
  go_enter Tryz.func110, Tryz.ntmps110
  go_wp2_with (go_at_call 116; refine JR.StopN.out ?_)
  refine ⟨?_⟩
  refine hrn0.mono ?_
  rintro e w3 ⟨rfl, rfl⟩
  clear hrn0 p5 p6 hw0
  go_wp2
  go_loopw [1, 15] (fun ad i wr => ∃ k : Nat, k ≤ N ∧ ad = .int .i64 (7 + k : Nat) ∧ i = .int .i64 k ∧ Inv k wr ∧ wr.heap[rb]? = some (.cells #[fl q0, fl q1, fl q2, fl q3] 52 (0, 0))) (fun _ i _ => N - (intOf i).toNat)
  case atStart => exact ⟨0, Nat.zero_le _, rfl, rfl, I4, R4⟩
  case round =>
    clear I4 R4
    obtain ⟨k, hk, rfl, rfl, I5, R5⟩ := hrel
    rcases Nat.lt_or_ge k N with hlt | hge
    · have hlt' : (k : Int) < (N : Int) := by omega
      have hm' := hm.out
      have a1 : ((7 + k : Nat) : Int) ≤ (m : Int) := by omega
      have a2 : m ≠ 7 + k := by omega
      have p40 := (hP38 k _ I5).2.2.1 k hlt
      have hrn := readNum_c g (7 + k) (m - (7 + k)) (m - (7 + k)) k (by omega) wr (by omega) p40
      clear hm'
      generalize hak : 7 + k = ak at *
      replace hak : JR.StopN (7 + k = ak) := ⟨hak⟩
      go_wp2_with (go_at_call 116; refine JR.StopN.out ?_)
      refine ⟨?_⟩
      refine hrn.mono ?_
      rintro e w6 ⟨rfl, rfl⟩
      have hsg := sgat_x (H.skp I5) (by have := H.len; omega) k (by omega)
      have hak2 : ((ak : Int) + 1) = ((7 + (k + 1) : Nat) : Int) := by have := hak.out; omega
      have akb : ak ≤ 60 := by have := hak.out; omega
      generalize hak3 : 7 + (k + 1) = ak1 at *
      clear hrn p40
      go_wp2_with (go_at_call 45; refine JR.StopN.out ?_)
      refine ⟨?_⟩
      refine hsg.mono ?_
      rintro e w7 ⟨rfl, hb7⟩
      have I7 := H.ext k _ _ I5 hb7
      have R7 := (hb7.block _ (lt_of_some R5)).trans R5
      clear hsg I5 R5 hb7
      unfold sgv
      have hal := (Below.refl w7.heap.size w7).alloc (Nat.le_refl _) (.cells #[fl (fb (at' l k).1), fl (fb (at' l k).2), fl (fb (nxp l k).1), fl (fb (nxp l k).2)] 73)
      have V8 := heap_alloc_new w7 (.cells #[fl (fb (at' l k).1), fl (fb (at' l k).2), fl (fb (nxp l k).1), fl (fb (nxp l k).2)] 73)
      have I8 := H.ext k _ _ I7 hal
      have R8 := (hal.block _ (lt_of_some R7)).trans R7
      clear I7 R7 hal
      go_wp2_with (go_at_call 46; refine JR.StopN.out ?_)
      refine ⟨?_⟩
      refine (sgr_x l H.bnd k _).mono ?_
      rintro e w9 ⟨rfl, hb9⟩
      have hal := (Below.refl w9.heap.size w9).alloc (Nat.le_refl _) (.cells #[fl (fb (sgx l k).1), fl (fb (sgx l k).2.1), fl (fb (sgx l k).2.2.1), fl (fb (sgx l k).2.2.2)] 52)
      have hh := hb9.trans (hal.mono hb9.size)
      have I10 := H.ext k _ _ I8 hh
      have R10 := (hh.block _ (lt_of_some R8)).trans R8
      have V10 := (hh.block _ (lt_of_some V8)).trans V8
      have U10 := heap_alloc_new w9 (.cells #[fl (fb (sgx l k).1), fl (fb (sgx l k).2.1), fl (fb (sgx l k).2.2.1), fl (fb (sgx l k).2.2.2)] 52)
      clear hb9 hal hh I8 R8 V8
      have Y0 := cellAt R10 0
      have Y1 := cellAt R10 1
      have Y2 := cellAt R10 2
      have Y3 := cellAt R10 3
      simp only [List.getElem?_toArray, List.getElem?_cons_zero, List.getElem?_cons_succ] at Y0 Y1 Y2 Y3
      generalize hsx0 : fb (sgx l k).1 = s0 at *
      generalize hsx1 : fb (sgx l k).2.1 = s1 at *
      generalize hsx2 : fb (sgx l k).2.2.1 = s2 at *
      generalize hsx3 : fb (sgx l k).2.2.2 = s3 at *
      have hmt := H.meet k (w9.alloc (.cells #[fl s0, fl s1, fl s2, fl s3] 52)) (by omega)
      rw [hsx0, hsx1, hsx2, hsx3] at hmt
      clear hsx0 hsx1 hsx2 hsx3
      go_wp2_with (go_at_call 25; refine JR.StopN.out ?_)
      refine ⟨?_⟩
      refine hmt.mono ?_
      rintro e w11 ⟨rfl, hb11⟩
      have I11 := H.ext k _ _ I10 hb11
      have R11 := (hb11.block _ (lt_of_some R10)).trans R10
      have V11 := (hb11.block _ (lt_of_some V10)).trans V10
      clear hmt hb11 I10 R10 V10 U10 Y0 Y1 Y2 Y3
      have W0 := cellAt V11 0
      have W1 := cellAt V11 1
      have W2 := cellAt V11 2
      have W3 := cellAt V11 3
      simp only [List.getElem?_toArray, List.getElem?_cons_zero, List.getElem?_cons_succ] at W0 W1 W2 W3
      generalize hh : hit k = h at *
      cases h with
      | false =>
        have I7 := H.skip k _ (by omega) hh I11
        clear hh
        go_wp2
        go_roundw
        case rel => exact ⟨k + 1, by omega, by rw [hak3, ← hak2], by go_num, I7, R11⟩
        case measure => simp [intOf]; omega
      | true =>
        have hst := H.step k _ (by omega) hh I11
        clear hh
        unfold sgv at hst
        go_wp2
        rw [H.ent, Oper.upon_enter]
        refine hst.mono ?_
        rintro e w12 ⟨c, rfl, hi, hs, hk7⟩
        have R12 := hk7.2 _ _ _ (.inl rfl) R11
        clear hst hk7 I11 R11 V11 W0 W1 W2 W3
        cases c with
        | true =>
          have I7 := hi rfl
          clear hi hs
          go_wp2
          go_roundw
          case rel => exact ⟨k + 1, by omega, by rw [hak3, ← hak2], by go_num, I7, R12⟩
          case measure => simp [intOf]; omega
        | false =>
          have S7 := hs rfl
          clear hi hs
          go_wp2
          go_ret
          exact ⟨false, rfl, fun h => (nomatch h), fun _ => S7⟩
    · have hkk : k = N := by omega
      subst hkk
      have p7 := (hP38 _ _ I5).2.2.2
      have hm' := hm.out
      have a1 : ((7 + k : Nat) : Int) < (m : Int) := by omega
      have a3 : ((7 + k : Nat) : Int) < 100 := by omega
      clear hP38 hm'
      generalize 7 + k = ak at *
      go_wp2
      go_ret
      exact ⟨true, rfl, fun _ => I5, fun h => (nomatch h)⟩

/-- Search, with any index -/
theorem getN_c (g n c x : Nat) (hx : x < 4294967296) (w : World) (hn : 4 ≤ n)
    (c0 : w.cell? ⟨g, 1, none⟩ = some (byv (x % 256))) (c1 : w.cell? ⟨g, 2, none⟩ = some (byv (x / 256 % 256))) (c2 : w.cell? ⟨g, 3, none⟩ = some (byv (x / 65536 % 256))) (c3 : w.cell? ⟨g, 4, none⟩ = some (byv (x / 16777216 % 256))) :
    Calls Tryz.prog 108 #[.agg #[], .slice (some ⟨g, 1, none⟩) n c] w fun e w' => e = .returned (.int .u32 x) ∧ Below w.heap.size w w' := by
  have h := getU32_c g 1 n c _ _ _ _ (by omega) (by omega) (by omega) (by omega) w hn c0 c1 c2 c3
  rw [le4_sum x hx] at h
  exact h
theorem ixby_hd (K : Nat) (l : List (Int × Int)) (n : Nat) : ∃ m R, m = (ixby K l n).length ∧ m = R.length + 5 ∧ ixby K l n = (K :: le4 m) ++ R := by
  refine ⟨_, ixrest K l n, rfl, ?_, ?_⟩
  · unfold ixby; simp [le4]
  · have e : (ixby K l n).length = (ixrest K l n).length + 5 := by unfold ixby; simp [le4]
    rw [e]
    rfl

set_option maxRecDepth 100000 in
set_option maxHeartbeats 8000000 in
theorem searchI_c (F : FuncId) (caps : Array Value) (K : Nat) (hK : K = 1 ∨ K = 2) (closed : Bool) (l : List (Int × Int)) (T : TypeId) (lo hi b q0 q1 q2 q3 : Nat) (ix v' : Value) (hit : Nat → Bool) (Inv : Nat → World → Prop) (Stop : World → Prop) (rhit : Bool)
    (H : SrchOk F caps K closed l T lo hi b ix v' (.agg #[fl q0, fl q1, fl q2, fl q3]) hit Inv Stop)
    (hroot : K = 1 → nSeg closed l ≠ 0 → ∀ u, Calls Tryz.prog 25 #[.agg #[fl q0, fl q1, fl q2, fl q3], .agg #[fl (fb (rbx l (nSeg closed l)).1), fl (fb (rbx l (nSeg closed l)).2.1), fl (fb (rbx l (nSeg closed l)).2.2.1), fl (fb (rbx l (nSeg closed l)).2.2.2)]] u fun e u' => e = .returned (.bool rhit) ∧ Below u.heap.size u u')
    (hpr : rhit = false → ∀ k, k < nSeg closed l → hit k = false) (w : World) (h0 : Inv 0 w) :
    Calls Tryz.prog 104 #[.pointer (some ⟨b, 0, none⟩), .agg #[fl q0, fl q1, fl q2, fl q3], .func (.func F) #[] caps] w fun e w' => e = .returned (.tuple #[]) ∧ (Inv (nSeg closed l) w' ∨ Stop w') := by
  have hK0 : K ≠ 0 := by omega
  have hnb := isBytes
  obtain ⟨hix, hrow, -⟩ := H.ser 0 w h0
  obtain ⟨g, m, rfl⟩ : ∃ g m, ix = .iface 107 (.slice (some ⟨g, 0, none⟩) m m) := by
    rcases hix with ⟨h, -⟩ | ⟨-, g, h, -⟩
    · exact absurd h hK0
    · exact ⟨g, _, h⟩
  clear hix
  have hb1 : Below w.heap.size w (w.alloc (.cells #[fl q0, fl q1, fl q2, fl q3] 52)) := (Below.refl _ w).alloc (Nat.le_refl _) _
  have hrow1 := (hb1.block b (lt_of_some hrow)).trans hrow
  have x4 := cellAt hrow1 4
  have I1 := H.ext 0 _ _ h0 hb1
  have R1 := heap_alloc_new w (.cells #[fl q0, fl q1, fl q2, fl q3] 52)
  obtain ⟨d1, d2⟩ := IxV.dat hK0 (H.ser 0 _ I1).1
  obtain ⟨m', R, hm', hmR, hby⟩ := ixby_hd K l (nSeg closed l)
  rw [hby] at d1
  have hm : m = m' := by rw [d2, hm']
  subst hm
  have hm100 : m ≤ 1000 := by
    rw [d2]
    have := Nat.le_trans (nSeg_le closed l) H.len
    rcases hK with rfl | rfl
    · by_cases h : nSeg closed l = 0
      · rw [h, ixby_r0]; simp
      · rw [ixby_r _ _ h]; simp [rpre, le4, le8]; omega
    · rw [ixby_q]; simp [qpre, le4]; omega
  clear hm' hby d2
  have hm5 : 5 ≤ m := by omega
  clear hmR
  simp only [serC, List.getElem?_toArray, List.getElem?_cons_zero, List.getElem?_cons_succ] at x4
  generalize hw1 : w.alloc (.cells #[fl q0, fl q1, fl q2, fl q3] 52) = w1 at *
  have k1 : (1 : Int) ≤ (m : Int) := by omega
  have k2 : m ≠ 1 := by omega
  have k3 : (0 : Int) < (m : Int) := by omega
  have k4 : 0 < m := by omega
  have hdr : Below w1.heap.size w1 w1.drew := (Below.refl _ w1).drew
  have I2 := H.ext 0 _ _ I1 hdr
  have R2 := (hdr.block _ (lt_of_some R1)).trans R1
  have D2 := (hdr.block _ (lt_of_some d1)).trans d1
  have B2 := (hdr.block _ (lt_of_some hrow1)).trans hrow1
  have hgn := getN_c g (m - 1) (m - 1) m (by omega) w1.drew (by omega) (datL D2 rfl) (datL D2 rfl) (datL D2 rfl) (datL D2 rfl)
  clear I1 R1 d1 hrow hb1 h0
  go_enter Tryz.func104, Tryz.ntmps104
  go_upto_region 13 with (fail)
  go_still_tail 3, (by kernel_rfl)
  change wpList _ _ _ _ _ w1.drew
  clear hdr x4 hrow1 hnb hw1
  generalize w1.drew = w2 at *
  generalize hrb : w.heap.size = rb at *
  go_wp2_with (go_at_call 108; refine JR.StopN.out ?_)
  refine ⟨?_⟩
  refine hgn.mono ?_
  rintro e w3 ⟨rfl, hb3⟩
  have I3 := H.ext 0 _ _ I2 hb3
  have R3 := (hb3.block _ (lt_of_some R2)).trans R2
  have D3 := (hb3.block _ (lt_of_some D2)).trans D2
  have B3 := (hb3.block _ (lt_of_some B2)).trans B2
  have p0 : w3.cell? ⟨g, 0, none⟩ = some (.int .u8 K) := datL D3 rfl
  have Y0 := cellAt R3 0
  have Y1 := cellAt R3 1
  have Y2 := cellAt R3 2
  have Y3 := cellAt R3 3
  have Z5 := cellAt B3 5
  have Z6 := cellAt B3 6
  have Z7 := cellAt B3 7
  have Z8 := cellAt B3 8
  simp only [serC, List.getElem?_toArray, List.getElem?_cons_zero, List.getElem?_cons_succ] at Y0 Y1 Y2 Y3 Z5 Z6 Z7 Z8
  clear hgn I2 R2 D2 B2 hb3
  rcases hK with rfl | rfl
  · have hrc := rc_c F caps closed l T lo hi b g m q0 q1 q2 q3 v' hit Inv Stop rhit H (hroot rfl) hpr w3 I3
    clear hroot hpr I3 R3 D3 B3 Z5 Z6 Z7 Z8
    go_wp2_with (go_at_call 109; refine JR.StopN.out ?_)
    refine ⟨?_⟩
    refine hrc.mono ?_
    rintro e w4 ⟨c, rfl, h1, h2⟩
    clear hrc p0 Y0 Y1 Y2 Y3
    go_wp2
    go_end0
    refine ⟨rfl, ?_⟩
    cases c with
    | true => exact .inl (h1 rfl)
    | false => exact .inr (h2 rfl)
  · have hqc := fun u h => qc_c F caps closed l T lo hi b g m q0 q1 q2 q3 (fb (ppB closed l).1) (fb (ppB closed l).2.1) (fb (ppB closed l).2.2.1) (fb (ppB closed l).2.2.2) v' hit Inv Stop H u h
    clear hroot hpr
    generalize fb (ppB closed l).1 = t0 at *
    generalize fb (ppB closed l).2.1 = t1 at *
    generalize fb (ppB closed l).2.2.1 = t2 at *
    generalize fb (ppB closed l).2.2.2 = t3 at *
    have hq3 : Below w3.heap.size w3 w3.drew := (Below.refl _ w3).drew
    have hqc4 := hqc _ (H.ext 0 _ _ I3 hq3)
    go_upto_region 19 with (fail)
    go_still_tail 8, (by kernel_rfl)
    change wpList _ _ _ _ _ w3.drew
    replace Y0 := cellAt ((hq3.block _ (lt_of_some R3)).trans R3) 0
    replace Y1 := cellAt ((hq3.block _ (lt_of_some R3)).trans R3) 1
    replace Y2 := cellAt ((hq3.block _ (lt_of_some R3)).trans R3) 2
    replace Y3 := cellAt ((hq3.block _ (lt_of_some R3)).trans R3) 3
    replace Z5 := (hq3.cell (World.block_lt_of_cell? w3 _ Z5)).trans Z5
    replace Z6 := (hq3.cell (World.block_lt_of_cell? w3 _ Z6)).trans Z6
    replace Z7 := (hq3.cell (World.block_lt_of_cell? w3 _ Z7)).trans Z7
    replace Z8 := (hq3.cell (World.block_lt_of_cell? w3 _ Z8)).trans Z8
    simp only [List.getElem?_toArray, List.getElem?_cons_zero, List.getElem?_cons_succ] at Y0 Y1 Y2 Y3
    clear I3 R3 D3 B3 p0 hq3
    generalize w3.drew = w4 at *
    go_wp2_with (go_at_call 110; refine JR.StopN.out ?_)
    refine ⟨?_⟩
    refine hqc4.mono ?_
    rintro e w5 ⟨c, rfl, h1, h2⟩
    clear hqc hqc4 Y0 Y1 Y2 Y3 Z5 Z6 Z7 Z8
    go_wp2
    go_end0
    refine ⟨rfl, ?_⟩
    cases c with
    | true => exact .inl (h1 rfl)
    | false => exact .inr (h2 rfl)
/-- Search, with any index -/
theorem search_c (F : FuncId) (caps : Array Value) (K : Nat) (hK : K ≤ 2) (closed : Bool) (l : List (Int × Int)) (T : TypeId) (lo hi b q0 q1 q2 q3 : Nat) (ix v' : Value) (hit : Nat → Bool) (Inv : Nat → World → Prop) (Stop : World → Prop) (rhit : Bool)
    (H : SrchOk F caps K closed l T lo hi b ix v' (.agg #[fl q0, fl q1, fl q2, fl q3]) hit Inv Stop)
    (hroot : K = 1 → nSeg closed l ≠ 0 → ∀ u, Calls Tryz.prog 25 #[.agg #[fl q0, fl q1, fl q2, fl q3], .agg #[fl (fb (rbx l (nSeg closed l)).1), fl (fb (rbx l (nSeg closed l)).2.1), fl (fb (rbx l (nSeg closed l)).2.2.1), fl (fb (rbx l (nSeg closed l)).2.2.2)]] u fun e u' => e = .returned (.bool rhit) ∧ Below u.heap.size u u')
    (hpr : rhit = false → ∀ k, k < nSeg closed l → hit k = false) (w : World) (h0 : Inv 0 w) :
    Calls Tryz.prog 104 #[.pointer (some ⟨b, 0, none⟩), .agg #[fl q0, fl q1, fl q2, fl q3], .func (.func F) #[] caps] w fun e w' => e = .returned (.tuple #[]) ∧ (Inv (nSeg closed l) w' ∨ Stop w') := by
  rcases Nat.eq_zero_or_pos K with rfl | h
  · exact search0_c F caps closed l T lo hi b q0 q1 q2 q3 ix v' hit Inv Stop H w h0
  · exact searchI_c F caps K (by omega) closed l T lo hi b q0 q1 q2 q3 ix v' hit Inv Stop rhit H hroot hpr w h0
end Go.Proofs.YtlpibeloedfbdaaGreat
