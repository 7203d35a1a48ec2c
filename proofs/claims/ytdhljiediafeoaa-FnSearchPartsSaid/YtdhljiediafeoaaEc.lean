import Derived.Test.YtdhljiediafeoaaEt
import Derived.Test.YtdhljiediafeoaaCpy
import Derived.Test.YtdhljiediafeoaaPts
set_option linter.unusedSimpArgs false
set_option linter.unusedVariables false
/-! The index as bytes, exactly. -/
namespace PF
open Go Go.RowKit JR
theorem fb_lt (n : Int) (hn : n.natAbs ≤ 1000000) : fb n < 18446744073709551616 := by
  obtain ⟨r, h1, h2, h3⟩ := fb_word n (by omega)
  rw [h1]
  have e : Ieee.double.signWeight = 9223372036854775808 := by decide +kernel
  unfold Ieee.Format.word
  rw [e]
  split <;> omega
/-- an r-tree of one node, as bytes -/
def rbytes (a0 a1 a2 a3 : Int) (n : Nat) : List Nat := le8 (fb a0) ++ (le8 (fb a1) ++ (le8 (fb a2) ++ (le8 (fb a3) ++ (n :: 1 :: List.range n))))
/-- a tree as bytes -/
def tby (a0 a1 a2 a3 : Int) (n : Nat) : List Nat := if n = 0 then [] else 0 :: rbytes a0 a1 a2 a3 n
/-- a quad tree of one node, as bytes -/
def qbytes (n : Nat) : List Nat := 1 :: n :: (List.range n ++ [0])
theorem le8_len (x : Nat) : (le8 x).length = 8 := rfl
theorem range_snoc (l : List Nat) (j : Nat) : l ++ List.range (j + 1) = l ++ List.range j ++ [j] := by rw [List.range_succ, List.append_assoc]
end PF
namespace Go.Proofs.Ytdhljiediafeoaa
open Go.RowKit PF JR
/-- the node in block N holds cnt rectangles; their data are small numbers -/
def NodV (w : World) (N cnt : Nat) : Prop :=
  w.cell? ⟨N, 0, none⟩ = some (.int .i64 cnt) ∧ cnt ≤ 16 ∧ ∀ i : Nat, i < cnt → w.cell? ⟨N, 1 + i * 5, none⟩ = some (.iface 3 (.int .i64 i))
theorem NodV.below {w w' : World} {N cnt B : Nat} (h : NodV w N cnt) (hN : N < B) (hb : Below B w w') : NodV w' N cnt := by
  obtain ⟨h1, h3, h4⟩ := h
  have e : ∀ o, w'.cell? ⟨N, o, none⟩ = w.cell? ⟨N, o, none⟩ := fun o => World.cell?_of_block (hb.block N hN)
  exact ⟨(e _).trans h1, h3, fun i hi => (e _).trans (h4 i hi)⟩

set_option maxRecDepth 100000 in
set_option maxHeartbeats 4000000 in
theorem rcompress_c (N cnt R o : Nat) (a0 a1 a2 a3 : Int) (hRd : Bd4 a0 a1 a2 a3) (base : Nat) (v : Value) (bs : List Nat) (w : World) (hN : NodV w N cnt) (hNb : N < base) (hRb : R < base)
    (r0 : w.cell? ⟨R, o, none⟩ = some (.iface 127 (.pointer (some ⟨N, 0, none⟩)))) (r1 : w.cell? ⟨R, o + 1, none⟩ = some (fl (fb a0))) (r2 : w.cell? ⟨R, o + 1 + 1, none⟩ = some (fl (fb a1))) (r3 : w.cell? ⟨R, o + 3, none⟩ = some (fl (fb a2))) (r4 : w.cell? ⟨R, o + 3 + 1, none⟩ = some (fl (fb a3)))
    (hv : Bys w base v bs) (hn : bs.length ≤ 1000) (hbs : base ≤ w.heap.size) :
    Calls Try.prog 52 #[.pointer (some ⟨R, o, none⟩), v, .int .i64 0] w fun e w' => ∃ v', e = .returned v' ∧ Bys w' base v' (bs ++ rbytes a0 a1 a2 a3 cnt) ∧ Below base w w' := by
  obtain ⟨z0, z1, z2, z3⟩ := hRd
  have l0 := fb_lt a0 z0
  have l1 := fb_lt a1 z1
  have l2 := fb_lt a2 z2
  have l3 := fb_lt a3 z3
  have ha := asNode
  have hN0 := hN
  have er : JR.StopN (∀ u, Below base w u → ∀ k, u.cell? ⟨R, k, none⟩ = w.cell? ⟨R, k, none⟩) := ⟨fun u hu k => World.cell?_of_block (hu.block R hRb)⟩
  go_enter Try.func52, Try.ntmps52
  go_wp2_with (go_at_call 61; refine JR.StopN.out ?_)
  refine ⟨?_⟩
  refine (appendFloat_c _ base l0 v bs w hv (by omega) hbs).mono ?_
  rintro e w1 ⟨v1, rfl, hv1, hb1⟩
  have q2 : w1.cell? ⟨R, o + 2, none⟩ = some (fl (fb a1)) := (er.out w1 hb1 _).trans r2
  have q2' : w1.cell? ⟨R, o + 1 + 1, none⟩ = some (fl (fb a1)) := q2
  clear r1 r2 hv
  go_wp2_with (go_at_call 61; refine JR.StopN.out ?_)
  refine ⟨?_⟩
  refine (appendFloat_c _ base l1 v1 (bs ++ le8 (fb a0)) w1 hv1 (by simp [le8_len]; omega) (Nat.le_trans hbs hb1.size)).mono ?_
  rintro e w2 ⟨v2, rfl, hv2, hb2⟩
  have hB2 := hb1.trans hb2
  have q3 := (er.out w2 hB2 _).trans r3
  clear q2 q2' hb1 hb2 hv1 r3
  go_wp2_with (go_at_call 61; refine JR.StopN.out ?_)
  refine ⟨?_⟩
  refine (appendFloat_c _ base l2 v2 (bs ++ le8 (fb a0) ++ le8 (fb a1)) w2 hv2 (by simp [le8_len]; omega) (Nat.le_trans hbs hB2.size)).mono ?_
  rintro e w3 ⟨v3, rfl, hv3, hb3⟩
  have hB3 := hB2.trans hb3
  have q4 : w3.cell? ⟨R, o + 4, none⟩ = some (fl (fb a3)) := (er.out w3 hB3 _).trans r4
  have q4' : w3.cell? ⟨R, o + 3 + 1, none⟩ = some (fl (fb a3)) := q4
  clear q3 hB2 hb3 hv2 r4
  go_wp2_with (go_at_call 61; refine JR.StopN.out ?_)
  refine ⟨?_⟩
  refine (appendFloat_c _ base l3 v3 (bs ++ le8 (fb a0) ++ le8 (fb a1) ++ le8 (fb a2)) w3 hv3 (by simp [le8_len]; omega) (Nat.le_trans hbs hB3.size)).mono ?_
  rintro e w4 ⟨v4, rfl, hv4, hb4⟩
  have hB4 := hB3.trans hb4
  clear q4 q4' hB3 hb4 hv3 er r0
  obtain ⟨k0, k2, k3⟩ := hN.below hNb hB4
  have kw : (cnt : Int) % 256 = (cnt : Int) := by omega
  clear hN
  go_wp2_with (at_builtin; refine wpList_byt rfl _ _ rfl base _ v4 w w4 rfl hv4 hB4 hbs [cnt] _ 1 rfl rfl ?c2 ?_)
  case c2 => simp [le8_len]; omega
  intro v5 w5 hv5 hB5
  have hN5 : NodV w5 N cnt := hN0.below hNb hB5
  clear k0 k3 hv4 hB4
  obtain ⟨k0, -, k3⟩ := hN5
  have hi := asInt
  have hnb := numBytes_c
  go_wp2
  go_loopw [8, 9] (fun b i wr => b = .int .u8 1 ∧ ∃ k : Nat, k ≤ cnt ∧ i = .int .i64 k ∧ wr = w5) (fun _ i _ => cnt - (intOf i).toNat)
  case atStart => exact ⟨rfl, 0, Nat.zero_le _, rfl, rfl⟩
  case round =>
    obtain ⟨rfl, k, hk, rfl, rfl⟩ := hrel
    rcases Nat.lt_or_ge k cnt with hlt | hge
    · have g1 := k3 k hlt
      have hc := hnb k (by omega) wr
      clear k3
      go_wp2_with (go_at_call 55; refine JR.StopN.out ?_)
      refine ⟨?_⟩
      refine hc.mono ?_
      rintro e w6 ⟨rfl, rfl⟩
      go_wp2
      go_roundw
      case rel => exact ⟨rfl, k + 1, by omega, by go_num, trivial⟩
      case measure => simp [intOf]; omega
    · have : k = cnt := by omega
      subst this
      go_wp2_with (at_builtin; refine wpList_byt rfl _ _ rfl base _ v5 w wr rfl hv5 hB5 hbs [1] _ 1 rfl rfl ?c2 ?_)
      case c2 => simp [le8_len]; omega
      intro v6 w6 hv6 hB6
      have hN6 : NodV w6 N k := hN0.below hNb hB6
      clear k0 k3 hv5 hB5
      go_wp2
      go_loopw [1, 11] (fun b i wr => ∃ j : Nat, j ≤ k ∧ i = .int .i64 j ∧ Bys wr base b ((bs ++ le8 (fb a0) ++ le8 (fb a1) ++ le8 (fb a2) ++ le8 (fb a3) ++ [k] ++ [1]) ++ List.range j) ∧ Below base w wr) (fun _ i _ => k - (intOf i).toNat)
      case atStart => exact ⟨0, Nat.zero_le _, rfl, by simpa using hv6, hB6⟩
      case round =>
        clear hv6 hB6 hN6
        obtain ⟨j, hj, rfl, hv7, hB7⟩ := hrel
        obtain ⟨k0, -, k3⟩ := hN0.below hNb hB7
        have han := appendNum_c
        rcases Nat.lt_or_ge j k with hlt | hge
        · have g1 := k3 j hlt
          clear k3
          go_wp2_with (go_at_call 56; refine JR.StopN.out ?_)
          refine ⟨?_⟩
          refine (appendNum_c j base (by omega) _ _ _ hv7 (by simp [le8_len]; omega) (Nat.le_trans hbs hB7.size)).mono ?_
          rintro e w8 ⟨v8, rfl, hv8, hb8⟩
          have hB8 := hB7.trans hb8
          go_wp2
          go_roundw
          case rel => exact ⟨j + 1, by omega, by go_num, by rw [range_snoc]; exact hv8, hB8⟩
          case measure => simp [intOf]; omega
        · have : j = k := by omega
          subst this
          go_wp2
          go_ret
          exact ⟨_, rfl, by unfold rbytes; simpa using hv7, hB7⟩
theorem NodA.nodV {w : World} {N n : Nat} {cs : Array Value} {T : TypeId} (h : NodA cs n) (hn : n ≤ 16) (hr : w.heap[N]? = some (.cells cs T (0, 0))) : NodV w N n := by
  exact ⟨(cellAt hr 0).trans h.2.1, hn, fun i hi => (cellAt hr _).trans (h.2.2 i hi)⟩

set_option maxRecDepth 100000 in
set_option maxHeartbeats 4000000 in
theorem tcompress_c (t b0 n : Nat) (a0 a1 a2 a3 : Int) (hRd : Bd4 a0 a1 a2 a3) (v : Value) (bs : List Nat) (u w : World) (hT : TreeS u t b0 n a0 a1 a2 a3) (hn : n ≤ 16) (hu : Below u.heap.size u w) (hv : Bys w u.heap.size v bs) (hm : bs.length ≤ 500) :
    Calls Try.prog 46 #[.pointer (some ⟨t, 0, none⟩), v] w fun e w' => ∃ v', e = .returned v' ∧ Bys w' u.heap.size v' (bs ++ tby a0 a1 a2 a3 n) ∧ Below u.heap.size w w' := by
  have hnn := nilNil
  have hin := ifNil
  have hs := hu.size
  rcases hT with ⟨rfl, hT⟩ | ⟨N, -, hn0, hT⟩
  · have r1 := (cellAt ((hu.block t (lt_of_some hT)).trans hT) 1)
    simp only [List.getElem?_toArray, List.getElem?_cons_zero, List.getElem?_cons_succ] at r1
    go_enter Try.func46, Try.ntmps46
    go_wp2
    go_ret
    exact ⟨_, rfl, by simpa [tby] using hv, Below.refl _ _⟩
  · have hT' := hT.below hu
    have hNlt := hT.nlt
    obtain ⟨-, h1, cs, hA, hN⟩ := hT'
    have htl : t < u.heap.size := by obtain ⟨-, h1, -⟩ := hT; exact lt_of_some h1
    have r0 := cellAt h1 0
    have r1 := cellAt h1 1
    simp only [List.getElem?_toArray, List.getElem?_cons_zero, List.getElem?_cons_succ] at r0 r1
    go_enter Try.func46, Try.ntmps46
    go_wp2_with (at_builtin; refine wpList_byt rfl _ _ rfl u.heap.size _ v w w rfl hv (Below.refl _ _) hs [0] _ 1 rfl rfl ?c2 ?_)
    case c2 => omega
    intro v1 w1 hv1 hb1
    have hN1 := (hb1.block N hNlt).trans hN
    have h11 := (hb1.block t htl).trans h1
    clear r0 r1 hv
    have r0 := cellAt h11 0
    simp only [List.getElem?_toArray, List.getElem?_cons_zero, List.getElem?_cons_succ] at r0
    go_upto_region 4 with (fail)
    go_still_tail 8, (by kernel_rfl)
    change wpList _ _ _ _ _ w1.drew
    have hb2 : Below w1.heap.size w1 w1.drew := (Below.refl _ w1).drew
    have hN2 := (hb2.block N (lt_of_some hN1)).trans hN1
    have h12 := (hb2.block t (lt_of_some h11)).trans h11
    have hv2 : Bys w1.drew u.heap.size v1 (bs ++ [0]) := hv1.below hb2
    have hB2 : Below u.heap.size w w1.drew := hb1.drew
    generalize w1.drew = w2 at *
    clear r0 hv1 hb2 hb1 hN1 h11
    have hrc := rcompress_c N n t 1 a0 a1 a2 a3 hRd u.heap.size v1 _ w2 (hA.nodV hn hN2) hNlt htl ((cellAt h12 1).trans rfl) ((cellAt h12 2).trans rfl) ((cellAt h12 3).trans rfl) ((cellAt h12 4).trans rfl) ((cellAt h12 5).trans rfl) hv2 (by simp; omega) (Nat.le_trans hs hB2.size)
    go_wp2_with (go_at_call 52; refine JR.StopN.out ?_)
    refine ⟨?_⟩
    refine hrc.mono ?_
    rintro e w3 ⟨v3, rfl, hv3, hb3⟩
    go_wp2
    go_ret
    exact ⟨_, rfl, by unfold tby; rw [if_neg hn0]; simpa using hv3, hB2.trans hb3⟩
end Go.Proofs.Ytdhljiediafeoaa
