import Derived.Test.YtdhljiediafeoaaSr
import Derived.Test.YtdhljiediafeoaaPl
import Derived.Test.YtdhljiediafeoaaJe
import Derived.Test.YtdhljiediafeoaaEs
set_option linter.unusedSimpArgs false
set_option linter.unusedVariables false
/-! buildIndex, of few segments, exactly. -/
namespace PF
theorem seg_pts {closed : Bool} {l : List (Int × Int)} {k : Nat} (hk : k < Go.Proofs.Ytdhljiediafeoaa.nSeg closed l) : k < l.length ∧ (if k = l.length - 1 then 0 else k + 1) < l.length := by
  unfold Go.Proofs.Ytdhljiediafeoaa.nSeg at hk
  split at hk
  · split at hk
    · omega
    · split at hk <;> split <;> omega
  · split <;> omega
/-- the point behind point k -/
def nxp (l : List (Int × Int)) (k : Nat) : Int × Int := at' l (if k = l.length - 1 then 0 else k + 1)
/-- the rectangle of segment k -/
def sgx (l : List (Int × Int)) (k : Nat) : Int × Int × Int × Int := (min (at' l k).1 (nxp l k).1, min (at' l k).2 (nxp l k).2, max (at' l k).1 (nxp l k).1, max (at' l k).2 (nxp l k).2)
/-- the rectangle of the first segments -/
def rbx (l : List (Int × Int)) : Nat → Int × Int × Int × Int
  | 0 => (0, 0, 0, 0)
  | n + 1 => (ifz n (sgx l n).1 (min (rbx l n).1 (sgx l n).1), ifz n (sgx l n).2.1 (min (rbx l n).2.1 (sgx l n).2.1), ifz n (sgx l n).2.2.1 (max (rbx l n).2.2.1 (sgx l n).2.2.1), ifz n (sgx l n).2.2.2 (max (rbx l n).2.2.2 (sgx l n).2.2.2))
def BdR (r : Int × Int × Int × Int) : Prop := Bd4 r.1 r.2.1 r.2.2.1 r.2.2.2
theorem sgx_bd {l : List (Int × Int)} (h : ∀ p ∈ l, Bnd p) (k : Nat) : BdR (sgx l k) := by
  have h1 := at_bnd h k
  have h2 : Bnd (nxp l k) := at_bnd h _
  obtain ⟨a, b⟩ := h1
  obtain ⟨c, d⟩ := h2
  unfold BdR Bd4 sgx
  simp only
  omega
theorem rbx_bd {l : List (Int × Int)} (h : ∀ p ∈ l, Bnd p) : ∀ n, BdR (rbx l n) := by
  intro n
  induction n with
  | zero => unfold BdR Bd4 rbx; simp
  | succ n ih =>
    have h1 := sgx_bd h n
    unfold BdR Bd4 at *
    simp only [rbx, ifz]
    split <;> omega
theorem min_fb (a b : Int) : (if b < a then fb b else fb a) = fb (min a b) := by
  split
  · rw [show min a b = b from by omega]
  · rw [show min a b = a from by omega]
theorem max_fb (a b : Int) : (if b < a then fb a else fb b) = fb (max a b) := by
  split
  · rw [show max a b = a from by omega]
  · rw [show max a b = b from by omega]
/-- the index behind its head -/
def ixrest (K : Nat) (l : List (Int × Int)) (n : Nat) : List Nat := if K = 1 then tby (rbx l n).1 (rbx l n).2.1 (rbx l n).2.2.1 (rbx l n).2.2.2 n else qbytes n
/-- the index' bytes -/
def ixby (K : Nat) (l : List (Int × Int)) (n : Nat) : List Nat := K :: (le4 ((ixrest K l n).length + 5) ++ ixrest K l n)
end PF
namespace Go.Proofs.Ytdhljiediafeoaa
open Go.RowKit PF JR
theorem nSeg_le (closed : Bool) (l : List (Int × Int)) : nSeg closed l ≤ l.length := by
  unfold nSeg; repeat' split
  all_goals omega
theorem neNil (w : World) : (binOp .neq 20 .nilIface .nilIface).run Try.prog w = .ok (.bool false) w := by kernel_rfl
theorem SerB.below {w w' : World} {sb lo hi B : Nat} {closed : Bool} {l : List (Int × Int)} {ss : Array Value} (h : SerB w sb closed l lo hi ss) (hb : Below B w w') (h1 : sb < B) (h2 : hi ≤ B) : SerB w' sb closed l lo hi ss := by
  obtain ⟨h0, hs, g1, v, g2, g3⟩ := h
  exact ⟨(hb.block sb h1).trans h0, hs, g1, v, g2, g3.keep' fun b _ hb2 _ => hb.block b (by omega)⟩
theorem byt_five {w : World} {g base a : Nat} (h : w.heap[g]? = some (.cells #[.int .u8 a, .int .u8 0, .int .u8 0, .int .u8 0, .int .u8 0] 5 (0, 0))) (hb : base ≤ g) : Bys w base (.slice (some ⟨g, 0, none⟩) 5 5) [a, 0, 0, 0, 0] :=
  ⟨rfl, .inr ⟨g, 5, _, rfl, hb, h, by simp, by unfold maxLen; omega, rfl, rfl⟩⟩
/-- what the field of the index holds; its block is from number lo up to hi -/
def IxV (K : Nat) (l : List (Int × Int)) (n lo hi : Nat) (w : World) (x : Value) : Prop :=
  (K = 0 ∧ x = .nilIface) ∨ (K ≠ 0 ∧ ∃ g, x = .iface 105 (.slice (some ⟨g, 0, none⟩) (ixby K l n).length (ixby K l n).length) ∧ lo ≤ g ∧ g < hi ∧ w.heap[g]? = some (.cells ((ixby K l n).map byv).toArray 5 (0, 0)))
theorem IxV.keep {K : Nat} {l : List (Int × Int)} {n lo hi : Nat} {w w' : World} {x : Value} (h : IxV K l n lo hi w x) (hk : ∀ k, lo ≤ k → k < hi → k < w.heap.size → w'.heap[k]? = w.heap[k]?) : IxV K l n lo hi w' x := by
  rcases h with h | ⟨h0, g, h1, h2, h3, h4⟩
  · exact .inl h
  · exact .inr ⟨h0, g, h1, h2, h3, (hk g h2 h3 (lt_of_some h4)).trans h4⟩
theorem IxV.wide {K : Nat} {l : List (Int × Int)} {n lo hi lo' hi' : Nat} {w : World} {x : Value} (h : IxV K l n lo hi w x) (h1 : lo' ≤ lo) (h2 : hi ≤ hi') : IxV K l n lo' hi' w x := by
  rcases h with h | ⟨h0, g, g1, g2, g3, g4⟩
  · exact .inl h
  · exact .inr ⟨h0, g, g1, by omega, by omega, g4⟩
/-- what buildIndex leaves: the index, of the series' cells, and nothing else is another one -/
def BiP (K : Nat) (l : List (Int × Int)) (n sb : Nat) (ss : Array Value) (w : World) (e : Ending) (w' : World) : Prop :=
  e = .returned (.tuple #[]) ∧ ∃ x, IxV K l n w.heap.size w'.heap.size w' x ∧ Rw w w' sb (ss.setIfInBounds 4 x) 86
theorem bip_of {K : Nat} (hK : K ≠ 0) {l : List (Int × Int)} {n sb g base : Nat} {ss : Array Value} {w w3 w4 : World} (hsb : sb < w.heap.size) (h3 : Below w.heap.size w w3) (h4 : Below w.heap.size w3 w4) (h5 : w4.heap[sb]? = some (.cells ss 86 (0, 0)))
    (hg : base ≤ g) (hbase : w.heap.size ≤ base) (hrow : w4.heap[g]? = some (.cells ((ixby K l n).map byv).toArray 5 (0, 0))) : BiP K l n sb ss w (.returned (.tuple #[])) (w4.setCell ⟨sb, 4, none⟩ (.iface 105 (.slice (some ⟨g, 0, none⟩) (ixby K l n).length (ixby K l n).length))) := by
  have h := h3.trans h4
  have hr := (Rw.refl h5).set 4 (.iface 105 (.slice (some ⟨g, 0, none⟩) (ixby K l n).length (ixby K l n).length))
  refine ⟨rfl, _, .inr ⟨hK, g, rfl, by omega, ?_, ?_⟩, ?_⟩
  · have := lt_of_some hrow
    simpa using this
  · exact (hr.kp.block g (lt_of_some hrow) (by simp; omega)).trans hrow
  · exact ⟨hr.row, ⟨hr.kp.os.trans h.os, hr.kp.tape.trans h.tape, hr.kp.output.trans h.output, Nat.le_trans h.size hr.kp.size, fun k hk hx => (hr.kp.block k (Nat.lt_of_lt_of_le hk h.size) hx).trans (h.block k hk)⟩⟩

set_option maxRecDepth 100000 in
set_option maxHeartbeats 4000000 in
theorem bIndex1_c (sb lo hi : Nat) (closed : Bool) (l : List (Int × Int)) (ss : Array Value) (w : World) (hS : SerB w sb closed l lo hi ss) (hhi : hi ≤ w.heap.size)
    (hK : ss[3]? = some (.int .u8 1)) (h4 : ss[4]? = some .nilIface) (hl : l.length ≤ 12) (h2l : 2 ≤ l.length) (hbd : ∀ p ∈ l, p.1.natAbs ≤ 1000000 ∧ p.2.natAbs ≤ 1000000) :
    Calls Try.prog 40 #[.pointer (some ⟨sb, 0, none⟩)] w (BiP 1 l (nSeg closed l) sb ss w) := by
  have hnn := neNil
  have hsb := lt_of_some hS.1
  have x3 := (cellAt hS.1 3).trans hK
  have x4 := (cellAt hS.1 4).trans h4
  have hss : 5 ≤ ss.size := by have := hS.2.1; omega
  have hn := nSeg_le closed l
  have ht0 := heap_alloc_new w (.cells #[.int .i64 0, .nilIface, fl 0, fl 0, fl 0, fl 0, .int .i64 0, .slice none 0 0] 100)
  have hB0 : Below w.heap.size w (w.alloc (.cells #[.int .i64 0, .nilIface, fl 0, fl 0, fl 0, fl 0, .int .i64 0, .slice none 0 0] 100)) := (Below.refl _ _).alloc (Nat.le_refl _) _
  have hseg := nseg_c sb lo hi closed l ss _ (hS.below hB0 hsb hhi) (by omega) h2l hbd
  go_enter Try.func40, Try.ntmps40
  go_wp2_with (go_at_call 41; refine JR.StopN.out ?_)
  refine ⟨?_⟩
  refine hseg.mono ?_
  rintro e w1 ⟨rfl, hb⟩
  have hT1 : TreeS w1 w.heap.size w.heap.size 0 (rbx l 0).1 (rbx l 0).2.1 (rbx l 0).2.2.1 (rbx l 0).2.2.2 := .inl ⟨rfl, (hb.block _ (lt_of_some ht0)).trans ht0⟩
  have hB1 := hB0.trans (hb.mono hB0.size)
  clear hb ht0 hB0 hseg x3 x4 hnn
  generalize hN : nSeg closed l = N at *
  go_wp2
  go_loopw [4] (fun i wr => ∃ k : Nat, k ≤ N ∧ i = .int .i64 k ∧ TreeS wr w.heap.size w.heap.size k (rbx l k).1 (rbx l k).2.1 (rbx l k).2.2.1 (rbx l k).2.2.2 ∧ Below w.heap.size w wr) (fun i _ => N - (intOf i).toNat)
  case atStart => exact ⟨0, Nat.zero_le _, rfl, hT1, hB1⟩
  case round =>
    clear hT1 hB1
    obtain ⟨k, hkl, rfl, hT, hB⟩ := hrel
    have hs := hB.size
    have hSr := hS.below hB hsb hhi
    rcases Nat.lt_or_ge k N with hlt | hge
    · obtain ⟨g1, g2⟩ := seg_pts (closed := closed) (l := l) (k := k) (by omega)
      have a1 := at_get g1
      have a2 := at_get g2
      have m1 := hbd _ (List.mem_of_getElem? a1)
      have m2 := hbd _ (List.mem_of_getElem? a2)
      have hsg := sgat_c sb k lo hi closed l _ _ ss wr hSr (by omega) a1 a2
      have hrb := rbx_bd hbd k
      have hsx := sgx_bd hbd k
      have ers : rbx l (k + 1) = (ifz k (sgx l k).1 (min (rbx l k).1 (sgx l k).1), ifz k (sgx l k).2.1 (min (rbx l k).2.1 (sgx l k).2.1), ifz k (sgx l k).2.2.1 (max (rbx l k).2.2.1 (sgx l k).2.2.1), ifz k (sgx l k).2.2.2 (max (rbx l k).2.2.2 (sgx l k).2.2.2)) := rfl
      have esx : sgx l k = (min (at' l k).1 (nxp l k).1, min (at' l k).2 (nxp l k).2, max (at' l k).1 (nxp l k).1, max (at' l k).2 (nxp l k).2) := rfl
      generalize hpa : at' l k = pa at *
      have enx : nxp l k = at' l (if k = l.length - 1 then 0 else k + 1) := rfl
      rw [enx] at esx
      generalize hpb : at' l (if k = l.length - 1 then 0 else k + 1) = pb at *
      clear hpa hpb enx
      generalize rbx l k = rk at *
      generalize sgx l k = sk at *
      have hlt' : (k : Int) < (N : Int) := by omega
      clear a1 a2 g1 g2
      go_wp2_with (go_at_call 42; refine JR.StopN.out ?_)
      refine ⟨?_⟩
      refine hsg.mono ?_
      rintro e w2 ⟨rfl, hb2⟩
      have hT2 := hT.below hb2
      have hB2 := hB.trans (hb2.mono hs)
      clear hsg hT hb2 hSr hB hs
      go_wp2_with (go_at_call 43; refine JR.StopN.out ?_)
      refine ⟨?_⟩
      refine (sgr_c (fb_rep pa.1 (by omega)) (fb_rep pa.2 (by omega)) (fb_rep pb.1 (by omega)) (fb_rep pb.2 (by omega)) _).mono ?_
      rintro e w3 ⟨rfl, hb3⟩
      have hT3 := hT2.below hb3
      have hB3 := hB2.trans (hb3.mono hB2.size)
      have hs3 := hB3.size
      clear hT2 hb3 hB2 m1 m2
      rw [min_fb, min_fb, max_fb, max_fb, show min pa.1 pb.1 = sk.1 from by rw [esx], show min pa.2 pb.2 = sk.2.1 from by rw [esx], show max pa.1 pb.1 = sk.2.2.1 from by rw [esx], show max pa.2 pb.2 = sk.2.2.2 from by rw [esx]]
      clear esx
      obtain ⟨s0, s1, s2, s3⟩ := sk
      obtain ⟨r0, r1, r2, r3⟩ := rk
      simp only at hT3 hrb hsx ers ⊢
      generalize hq0 : fb s0 = q0
      generalize hq1 : fb s1 = q1
      generalize hq2 : fb s2 = q2
      generalize hq3 : fb s3 = q3
      go_wp2_with (go_at_call 44; refine JR.StopN.out ?_)
      refine ⟨?_⟩
      have st := (((Blk.nil w3).push rfl #[fl q0, fl q1, fl q2, fl q3] 53).push (b := w3.heap.size + 1) (by simp) #[fl q0, fl q1] 41).push (b := w3.heap.size + 1 + 1) (by simp) #[fl q2, fl q3] 41
      have c0 := st.cell 1 rfl 0
      have c1 := st.cell 1 rfl 1
      have c2 := st.cell 0 rfl 0
      have c3 := st.cell 0 rfl 1
      have hbx := st.hb
      have hT4 := hT3.below hbx
      have hB4 := hB3.trans (hbx.mono hs3)
      clear st hT3 hB3 hbx
      subst hq0 hq1 hq2 hq3
      refine (tInsert_c w.heap.size k w.heap.size _ 0 _ _ 0 _ r0 r1 r2 r3 s0 s1 s2 s3 hrb hsx _ hT4 (by omega) c0 c1 c2 c3 (Nat.le_refl _) hB4.size).mono ?_
      rintro e w5 ⟨rfl, hT5, hB5⟩
      have hB6 := hB4.trans hB5
      clear hT4 hB4 hB5 c0 c1 c2 c3
      go_wp2
      go_roundw
      case rel => exact ⟨k + 1, by omega, by go_num, by rw [ers]; exact hT5, hB6⟩
      case measure => simp [intOf]; omega
    · have hkk : k = N := by omega
      subst hkk
      have hnl : ¬ (k : Int) < (k : Int) := by omega
      have st := (Blk.nil wr).push rfl #[.int .u8 1, .int .u8 0, .int .u8 0, .int .u8 0, .int .u8 0] 5
      have hb5 := byt_five (a := 1) (st.known 0 _ rfl) (Nat.le_refl wr.heap.size)
      have hcm := tcompress_c w.heap.size w.heap.size k _ _ _ _ (rbx_bd hbd k) _ _ wr _ hT (by omega) st.hb hb5 (by decide)
      clear st hb5 hbd
      go_wp2_with (go_at_call 46; refine JR.StopN.out ?_)
      refine ⟨?_⟩
      refine hcm.mono ?_
      rintro e w2 ⟨v2, rfl, hv2, hb2⟩
      have hir : tby (rbx l k).1 (rbx l k).2.1 (rbx l k).2.2.1 (rbx l k).2.2.2 k = ixrest 1 l k := rfl
      rw [hir] at hv2
      have hlen : (ixrest 1 l k).length ≤ 100 := by unfold ixrest tby rbytes; simp only [if_true]; split <;> simp [le8_len]; omega
      have hB2 := (hB.trans ((((Below.refl wr.heap.size wr).alloc (Nat.le_refl _) _).trans hb2).mono hs))
      have hS2 := hS.below hB2 hsb hhi
      have hsc := setComp_c sb _ wr.heap.size 1 (ixrest 1 l k) v2 ss w2 hS2.1 hss hv2 rfl (by omega) (by have := hb2.size; simp at this; omega) (by omega)
      clear hcm hv2 hS2 hSr hb2
      go_wp2_with (go_at_call 45; refine JR.StopN.out ?_)
      refine ⟨?_⟩
      refine hsc.mono ?_
      rintro e w3 ⟨rfl, w4, g, hb4, hr4, hg, hgr, rfl⟩
      clear hsc
      go_wp2
      go_end0
      exact bip_of (by decide) hsb hB2 (hb4.mono hs) hr4 hg hs hgr

set_option maxRecDepth 100000 in
set_option maxHeartbeats 4000000 in
theorem bIndex0_c (sb lo hi : Nat) (closed : Bool) (l : List (Int × Int)) (ss : Array Value) (w : World) (hS : SerB w sb closed l lo hi ss)
    (hK : ss[3]? = some (.int .u8 0)) (h4 : ss[4]? = some .nilIface) :
    Calls Try.prog 40 #[.pointer (some ⟨sb, 0, none⟩)] w (BiP 0 l (nSeg closed l) sb ss w) := by
  have hnn := neNil
  have x3 := (cellAt hS.1 3).trans hK
  have x4 := (cellAt hS.1 4).trans h4
  go_enter Try.func40, Try.ntmps40
  go_wp2
  go_end0
  refine ⟨rfl, .nilIface, .inl ⟨rfl, rfl⟩, ?_, Keep.refl _ _⟩
  have e : ss.setIfInBounds 4 .nilIface = ss := by
    apply Array.ext_getElem?
    intro i
    rw [Array.getElem?_setIfInBounds]
    split
    · rename_i h
      subst h
      rw [if_pos (by have := hS.2.1; omega), h4]
    · rfl
  rw [e]
  exact hS.1

set_option maxRecDepth 100000 in
set_option maxHeartbeats 4000000 in
theorem bIndex2_c (sb lo hi : Nat) (closed : Bool) (l : List (Int × Int)) (ss : Array Value) (w : World) (hS : SerB w sb closed l lo hi ss) (hhi : hi ≤ w.heap.size)
    (hK : ss[3]? = some (.int .u8 2)) (h4 : ss[4]? = some .nilIface) (r0 r1 r2 r3 : Nat) (h5 : ss[5]? = some (fl r0)) (h6 : ss[6]? = some (fl r1)) (h7 : ss[7]? = some (fl r2)) (h8 : ss[8]? = some (fl r3)) (hl : l.length ≤ 12) (h2l : 2 ≤ l.length) (hbd : ∀ p ∈ l, p.1.natAbs ≤ 1000000 ∧ p.2.natAbs ≤ 1000000) :
    Calls Try.prog 40 #[.pointer (some ⟨sb, 0, none⟩)] w (BiP 2 l (nSeg closed l) sb ss w) := by
  have hnn := neNil
  have hsb := lt_of_some hS.1
  have x3 := (cellAt hS.1 3).trans hK
  have x4 := (cellAt hS.1 4).trans h4
  have hss : 5 ≤ ss.size := by have := hS.2.1; omega
  have hn := nSeg_le closed l
  have ht0 := heap_alloc_new w (.cells #[.bool false, .slice none 0 0, .pointer none, .pointer none, .pointer none, .pointer none] 111)
  have hB0 : Below w.heap.size w (w.alloc (.cells #[.bool false, .slice none 0 0, .pointer none, .pointer none, .pointer none, .pointer none] 111)) := (Below.refl _ _).alloc (Nat.le_refl _) _
  have hseg := nseg_c sb lo hi closed l ss _ (hS.below hB0 hsb hhi) (by omega) h2l hbd
  go_enter Try.func40, Try.ntmps40
  go_wp2_with (go_at_call 41; refine JR.StopN.out ?_)
  refine ⟨?_⟩
  refine hseg.mono ?_
  rintro e w1 ⟨rfl, hb⟩
  have hT1 : QuV w1 w.heap.size 0 := ⟨_, (hb.block _ (lt_of_some ht0)).trans ht0, World.ownsRow_nil _ _ _ _⟩
  have hB1 := hB0.trans (hb.mono hB0.size)
  clear hb ht0 hB0 hseg x3 x4 hnn
  generalize hN : nSeg closed l = N at *
  go_wp2
  go_loopw [8] (fun i wr => ∃ k : Nat, k ≤ N ∧ i = .int .i64 k ∧ QuV wr w.heap.size k ∧ Below w.heap.size w wr) (fun i _ => N - (intOf i).toNat)
  case atStart => exact ⟨0, Nat.zero_le _, rfl, hT1, hB1⟩
  case round =>
    clear hT1 hB1
    obtain ⟨k, hkl, rfl, hT, hB⟩ := hrel
    have hs := hB.size
    have hSr := hS.below hB hsb hhi
    rcases Nat.lt_or_ge k N with hlt | hge
    · obtain ⟨g1, g2⟩ := seg_pts (closed := closed) (l := l) (k := k) (by omega)
      have a1 := at_get g1
      have a2 := at_get g2
      have m1 := hbd _ (List.mem_of_getElem? a1)
      have m2 := hbd _ (List.mem_of_getElem? a2)
      have hsg := sgat_c sb k lo hi closed l _ _ ss wr hSr (by omega) a1 a2
      generalize at' l k = pa at *
      generalize at' l (if k = l.length - 1 then 0 else k + 1) = pb at *
      have hlt' : (k : Int) < (N : Int) := by omega
      clear a1 a2 hbd g1 g2
      go_wp2_with (go_at_call 42; refine JR.StopN.out ?_)
      refine ⟨?_⟩
      refine hsg.mono ?_
      rintro e w2 ⟨rfl, hb2⟩
      have hT2 := hT.below hb2
      have hB2 := hB.trans (hb2.mono hs)
      clear hsg hT hb2 hSr hB hs
      go_wp2_with (with_reducible refine stop_region ?_)
      refine ⟨?_⟩
      have hs2 := hB2.size
      have hnew := heap_alloc_new w2 (.cells #[fl (fb pa.1), fl (fb pa.2), fl (fb pb.1), fl (fb pb.2)] 56)
      have hB3 := hB2.alloc hs2 (.cells #[fl (fb pa.1), fl (fb pa.2), fl (fb pb.1), fl (fb pb.2)] 56)
      have hT3 := hT2.below ((Below.refl _ w2).alloc (Nat.le_refl _) (.cells #[fl (fb pa.1), fl (fb pa.2), fl (fb pb.1), fl (fb pb.2)] 56))
      have hq9 : w2.heap.size ≠ w.heap.size := Nat.ne_of_gt hT2.lt
      clear hT2 hB2
      generalize (w2.alloc (.cells #[fl (fb pa.1), fl (fb pa.2), fl (fb pb.1), fl (fb pb.2)] 56)) = W at *
      generalize w2.heap.size = s9 at *
      generalize hq : w.heap.size = q at *
      obtain ⟨vi, hrow, hown⟩ := id hT3
      have hqv := hT3.lt
      have hs9 := lt_of_some hnew
      have hsbW := (hB3.block sb hsb).trans hS.1
      have hsbl := lt_of_some hsbW
      have hdn : ∀ u, QuV u q (k + 1) → ∃ cs, cs ≠ #[.bool false, vi, .pointer none, .pointer none, .pointer none, .pointer none] ∧ u.heap[q]? = some (.cells cs 111 (0, 0)) := by
        rintro u ⟨vi', hr', ho'⟩
        refine ⟨_, fun he => ?_, hr'⟩
        obtain ⟨A, c, e1⟩ := own_slc hown
        obtain ⟨A', c', e2⟩ := own_slc ho'
        rw [e1, e2] at he
        simp at he
      have hwas : ∀ u, Was W (fun u => QuV u q (k + 1) ∧ Below q W u ∧ u.heap[s9]? = W.heap[s9]?) u → u.heap[sb]? = W.heap[sb]? ∧ u.heap[s9]? = W.heap[s9]? := by
        rintro u (hB | ⟨-, -, hB, h⟩)
        · exact ⟨hB.block sb hsbl, hB.block s9 hs9⟩
        · exact ⟨hB.block sb hsb, h⟩
      refine wp_region_W (fun u => QuV u q (k + 1) ∧ Below q W u ∧ u.heap[s9]? = W.heap[s9]?)
        [.val (.pointer (some ⟨q, 0, none⟩)), .val (.pointer (some ⟨sb, 0, none⟩)), .val (.pointer (some ⟨sb, 0, none⟩)), .val (.pointer (some ⟨sb, 0, none⟩)), .val (.pointer (some ⟨sb, 5, none⟩)),
          .val (.agg #[fl r0, fl r1, fl r2, fl r3]), .val (.agg #[fl (fb pa.1), fl (fb pa.2), fl (fb pb.1), fl (fb pb.2)]),
          .val (.agg #[fl (if pb.1 < pa.1 then fb pb.1 else fb pa.1), fl (if pb.2 < pa.2 then fb pb.2 else fb pa.2), fl (if pb.1 < pa.1 then fb pa.1 else fb pb.1), fl (if pb.2 < pa.2 then fb pa.2 else fb pb.2)]),
          .val (.int .i64 k), .turn q #[.bool false, vi, .pointer none, .pointer none, .pointer none, .pointer none] (· ≠ #[.bool false, vi, .pointer none, .pointer none, .pointer none, .pointer none]) 111]
        [[.ini 6], [.ini 0], [.ini 0], [.frm 2 71], [.frm 3 72], [.frm 4 73], [.ini 9], [.frm 6 75], [.ini 8], [.til 9, .frm 0 69, .frm 1 70, .frm 5 74, .frm 7 76, .frm 8 77]]
        mixed (by kernel_rfl) (by kernel_rfl) (allPre_of ⟨trivial, trivial, trivial, trivial, trivial, trivial, trivial, trivial, trivial, hrow, trivial⟩)
        (fun u u' he ⟨h1, h2, h3⟩ => ⟨h1.below he, h2.trans (he.mono (Nat.le_trans (Nat.le_of_lt hqv) h2.size)), (he.block s9 (Nat.lt_of_lt_of_le hs9 h2.size)).trans h3⟩)
        ⟨OpOk.quiet rfl ?_, OpOk.quiet rfl ?_, OpOk.quiet rfl ?_, OpOk.quiet rfl ?_, OpOk.quiet rfl ?_, OpOk.quiet rfl ?_, OpOk.quiet rfl ?_, OpOk.call rfl ?_, OpOk.quiet rfl ?_,
          OpOk.last rfl (fun u h => hdn u h.1) ⟨.inr ⟨rfl, fun _ _ h => h⟩, .inr ⟨rfl, fun _ _ h => h⟩, .inr ⟨rfl, fun _ _ h => h⟩, .inr ⟨rfl, fun _ _ h => h⟩, .inr ⟨rfl, fun _ _ h => h⟩, .inr ⟨rfl, fun _ _ h => h⟩, .inr ⟨rfl, fun _ _ h => h⟩, .inr ⟨rfl, fun _ _ h => h⟩, .inr ⟨rfl, fun _ _ h => h⟩, .inl rfl, trivial⟩ (fun a u hf => hf.1) ?_, trivial⟩ ?_
      · intro a u _ hf
        simp [facts, Need.fact, Act.eval] at hf
        go_simp
      · intro a u _ hf
        simp [facts, Need.fact, Act.eval] at hf
        go_simp
      · intro a u _ hf
        simp [facts, Need.fact, Act.eval] at hf
        go_simp
      · intro a u _ hf
        simp [facts, Need.fact, Ent.val, Act.eval] at hf
        go_simp
      · intro a u _ hf
        simp [facts, Need.fact, Ent.val, Act.eval] at hf
        go_simp
      · intro a u hG hf
        simp [facts, Need.fact, Ent.val, Act.eval] at hf
        have hr := (hwas u hG).1.trans hsbW
        have y5 := (cellAt hr 5).trans h5
        have y6 := (cellAt hr 6).trans h6
        have y7 := (cellAt hr 7).trans h7
        have y8 := (cellAt hr 8).trans h8
        go_simp
      · intro a u hG hf
        simp [facts, Need.fact, Act.eval] at hf
        have hr := (hwas u hG).2.trans hnew
        have y0 := cellAt hr 0
        have y1 := cellAt hr 1
        have y2 := cellAt hr 2
        have y3 := cellAt hr 3
        simp only [List.getElem?_toArray, List.getElem?_cons_zero, List.getElem?_cons_succ] at y0 y1 y2 y3
        go_simp
      · intro a u _ hf
        simp [facts, Need.fact, Ent.val, Act.eval] at hf
        refine ⟨_, _, by go_simp, (sgr_c (fb_rep pa.1 (by omega)) (fb_rep pa.2 (by omega)) (fb_rep pb.1 (by omega)) (fb_rep pb.2 (by omega)) u).mono ?_⟩
        rintro e w' ⟨rfl, hb⟩
        exact ⟨_, rfl, hb, rfl⟩
      · intro a u _ hf
        simp [facts, Need.fact, Act.eval] at hf
        go_simp
      · intro a u hBu hf
        obtain ⟨-, hf⟩ := hf
        simp [facts, Need.fact, Ent.val, Act.eval] at hf
        have hsu := hBu.size
        refine ⟨_, _, by go_simp, (qinsert_c q k q r0 r1 r2 r3 (if pb.1 < pa.1 then fb pb.1 else fb pa.1) (if pb.2 < pa.2 then fb pb.2 else fb pa.2) (if pb.1 < pa.1 then fb pa.1 else fb pb.1) (if pb.2 < pa.2 then fb pa.2 else fb pb.2) (.pointer (some ⟨sb, 0, none⟩)) u (hT3.below hBu) (by omega) (Nat.le_refl _) (by omega)).mono ?_⟩
        rintro e w' ⟨rfl, hQ, hB', hoth⟩
        refine ⟨_, rfl, Nat.le_of_lt_succ (Nat.lt_succ_of_le ?_), hQ, (hBu.mono (by omega)).trans hB', (hoth s9 _ _ hq9 (by decide) ((hBu.block s9 hs9).trans hnew)).trans hnew.symm⟩
        exact hB'.size
      intro v l' h' wc hW hE
      have hD : QuV wc q (k + 1) ∧ Below q W wc := by
        rcases hW with hW | ⟨-, h1, h2, -⟩
        · simp only [allE, Ent.turn] at hE
          obtain ⟨-, -, -, -, -, -, -, -, -, ⟨cs, g1, g2⟩, -⟩ := hE
          rw [(hW.block q hqv).trans hrow] at g2
          cases g2
          exact absurd rfl g1
        · exact ⟨h1, h2⟩
      simp only [allE, Ent.val] at hE
      obtain ⟨e0, e1, e2, e3, e4, e5, e6, e7, e8, -⟩ := hE
      simp only [Nat.reduceAdd] at e0 e1 e2 e3 e4 e5 e6 e7 e8
      simp only [allPut, Act.put, e0, e1, e2, e3, e4, e5, e6, e7, e8, Nat.reduceAdd]
      generalize v 9 = x78
      generalize (if pb.1 < pa.1 then fb pb.1 else fb pa.1) = q0
      generalize (if pb.2 < pa.2 then fb pb.2 else fb pa.2) = q1
      generalize (if pb.1 < pa.1 then fb pa.1 else fb pb.1) = q2
      generalize (if pb.2 < pa.2 then fb pa.2 else fb pb.2) = q3
      clear hW hwas hdn hT3 hrow hown e0 e1 e2 e3 e4 e5 e6 e7 e8
      obtain ⟨hT4, hB4⟩ := hD
      have hB5 := hB3.trans hB4
      clear hB3 hB4 hnew hsbW m1 m2
      subst hq
      go_wp2
      go_roundw
      case rel => exact ⟨k + 1, by omega, by go_num, hT4, hB5⟩
      case measure => simp [intOf]; omega
    · have hkk : k = N := by omega
      subst hkk
      have hnl : ¬ (k : Int) < (k : Int) := by omega
      have st := (Blk.nil wr).push rfl #[.int .u8 2, .int .u8 0, .int .u8 0, .int .u8 0, .int .u8 0] 5
      have hSr2 := (st.hb.block sb (by omega)).trans hSr.1
      have x5 := (cellAt hSr2 5).trans h5
      have x6 := (cellAt hSr2 6).trans h6
      have x7 := (cellAt hSr2 7).trans h7
      have x8 := (cellAt hSr2 8).trans h8
      have hb5 := byt_five (a := 2) (st.known 0 _ rfl) (Nat.le_refl wr.heap.size)
      have hcm := qcompress_c w.heap.size k r0 r1 r2 r3 _ _ wr _ hT (by omega) st.hb hb5 (by decide)
      clear st hb5 hbd
      go_wp2_with (go_at_call 48; refine JR.StopN.out ?_)
      refine ⟨?_⟩
      refine hcm.mono ?_
      rintro e w2 ⟨v2, rfl, hv2, hb2⟩
      have hir : qbytes k = ixrest 2 l k := rfl
      rw [hir] at hv2
      have hlen : (ixrest 2 l k).length ≤ 100 := by unfold ixrest qbytes; simp; omega
      have hB2 := (hB.trans ((((Below.refl wr.heap.size wr).alloc (Nat.le_refl _) _).trans hb2).mono hs))
      have hS2 := hS.below hB2 hsb hhi
      have hsc := setComp_c sb _ wr.heap.size 2 (ixrest 2 l k) v2 ss w2 hS2.1 hss hv2 rfl (by omega) (by have := hb2.size; simp at this; omega) (by omega)
      clear hcm hv2 hS2 hSr hb2
      go_wp2_with (go_at_call 45; refine JR.StopN.out ?_)
      refine ⟨?_⟩
      refine hsc.mono ?_
      rintro e w3 ⟨rfl, w4, g, hb4, hr4, hg, hgr, rfl⟩
      clear hsc
      go_wp2
      go_end0
      exact bip_of (by decide) hsb hB2 (hb4.mono hs) hr4 hg hs hgr
end Go.Proofs.Ytdhljiediafeoaa
