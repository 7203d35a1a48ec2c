import Derived.Test.YtlpibeloedfbdaaGreatLk
import Derived.Test.YtlpibeloedfbdaaGreatQH
import Derived.Test.YtlpibeloedfbdaaGreatQK
import Derived.Test.YtlpibeloedfbdaaGreatQG
set_option linter.unusedSimpArgs false
set_option linter.unusedVariables false
/-! Polygons: what they meet (printed by gen/lm.py). -/
namespace Go.Proofs.YtlpibeloedfbdaaGreat
open Go.RowKit PF JR
/-- the holes of a polygon -/
def HolM (w : World) (A : Option Addr) (H : List (List (Int × Int))) : Prop :=
  ∀ k x, H[k]? = some x → ∃ b z, A = some ⟨b, 0, none⟩ ∧ w.cell? ⟨b, k, none⟩ = some (.iface 95 z) ∧ RG bsF 95 z x w
/-- block n holds a polygon -/
def PolM (n : Nat) (l : List (Int × Int)) (H : List (List (Int × Int))) (w : World) : Prop :=
  ∃ f T y A c, w.heap[n]? = some (.cells #[.iface T y, .slice A H.length c] 90 (0, 0)) ∧ RG f T y l w ∧ HolM w A H ∧ H.length ≤ 1000
theorem HolM.below {w w' : World} {A : Option Addr} {H : List (List (Int × Int))} (h : HolM w A H) (hb : Below w.heap.size w w') : HolM w' A H := by
  intro k x hx
  obtain ⟨b, z, h1, h2, h3⟩ := h k x hx
  exact ⟨b, z, h1, (hb.cell (World.block_lt_of_cell? w _ h2)).trans h2, h3.below hb⟩
theorem PolM.below {n : Nat} {l : List (Int × Int)} {H : List (List (Int × Int))} {w w' : World} (h : PolM n l H w) (hb : Below w.heap.size w w') : PolM n l H w' := by
  obtain ⟨f, T, y, A, c, h1, h2, h3, h4⟩ := h
  exact ⟨f, T, y, A, c, (hb.block n (lt_of_some h1)).trans h1, h2.below hb, h3.below hb, h4⟩
/-- two polygons meet; a polygon and a line do -/
def polV (l : List (Int × Int)) (H : List (List (Int × Int))) (m : List (Int × Int)) (G : List (List (Int × Int))) : Bool := rirV m l && (!anyN (fun k => rcrV (H.getD k []) true m) H.length && !anyN (fun k => rcrV (G.getD k []) true l) G.length)
def polLV (l : List (Int × Int)) (H : List (List (Int × Int))) (m : List (Int × Int)) : Bool := rilV l m && !anyN (fun k => rcrV (H.getD k []) false m) H.length
set_option maxRecDepth 100000 in
set_option maxHeartbeats 8000000 in
theorem pip_c {n1 n2 : Nat} {l m : List (Int × Int)} {H G : List (List (Int × Int))} {w : World} (P1 : PolM n1 l H w) (P2 : PolM n2 m G w) :
    Calls Tryz.prog 137 #[.pointer (some ⟨n1, 0, none⟩), .pointer (some ⟨n2, 0, none⟩)] w fun e w' => e = .returned (.bool (polV l H m G)) ∧ Below w.heap.size w w' := by
  obtain ⟨f1, T1, y1, A1, c1, hn1, R1, H1, l1⟩ := P1
  obtain ⟨f2, T2, y2, A2, c2, hn2, R2, H2, l2⟩ := P2
  have x0 := cellAt hn1 0
  have z0 := cellAt hn2 0
  simp only [List.getElem?_toArray, List.getElem?_cons_zero, List.getElem?_cons_succ] at x0 z0
  have hrir := fun u hu => rir_q R2 R1 u hu
  obtain ⟨rr, hrr⟩ : ∃ r, rirV m l = r := ⟨_, rfl⟩
  simp only [hrr] at hrir
  unfold polV
  obtain ⟨F1, hF⟩ : ∃ F : Nat → Bool, (fun k => rcrV (H.getD k []) true m) = F := ⟨_, rfl⟩
  have hF1 := fun k => congrFun hF k
  obtain ⟨F2, hG⟩ : ∃ F : Nat → Bool, (fun k => rcrV (G.getD k []) true l) = F := ⟨_, rfl⟩
  have hF2 := fun k => congrFun hG k
  simp only [hrr, hF, hG]
  clear hrr hF hG
  have B0 := Below.refl w.heap.size w
  go_enter Tryz.func137, Tryz.ntmps137
  go_wp2
  refine wp_region_K [] [.val (.pointer (some ⟨n2, 0, none⟩)), .val (.pointer (some ⟨n2, 0, none⟩)), .val (.pointer (some ⟨n2, 0, none⟩)), .val (.iface T2 y2), .val (.pointer (some ⟨n1, 0, none⟩)), .val (.pointer (some ⟨n1, 0, none⟩)), .val (.pointer (some ⟨n1, 0, none⟩)), .val (.iface T1 y1), .val (.bool rr), .val (.bool (!rr))]
    [[.ini 1], [.frm 0 29], [.frm 1 30], [.frm 2 31], [.ini 0], [.frm 4 33], [.frm 5 34], [.frm 6 35], [.frm 3 32, .frm 7 36], [.frm 8 37]]
    mixed (by kernel_rfl) (by kernel_rfl) (allPre_of ⟨trivial, trivial, trivial, trivial, trivial, trivial, trivial, trivial, trivial, trivial, trivial⟩)
    ⟨OpOk.quiet rfl ?_, OpOk.quiet rfl ?_, OpOk.quiet rfl ?_, OpOk.quiet rfl ?_, OpOk.quiet rfl ?_, OpOk.quiet rfl ?_, OpOk.quiet rfl ?_, OpOk.quiet rfl ?_, OpOk.call rfl ?_, OpOk.quiet rfl ?_, trivial⟩ ?_
  · intro a u _ hf
    simp [facts, Need.fact, Act.eval] at hf
    go_simp
  · intro a u _ hf
    simp [facts, Need.fact, Ent.val, Act.eval] at hf
    go_simp
  · intro a u _ hf
    simp [facts, Need.fact, Ent.val, Act.eval] at hf
    go_simp
  · intro a u hG hf
    simp [facts, Need.fact, Ent.val, Act.eval] at hf
    have x0 := cellAt ((hG.block _ (lt_of_some hn2) (by simp)).trans hn2) 0
    simp only [List.getElem?_toArray, List.getElem?_cons_zero, List.getElem?_cons_succ] at x0
    go_simp
  · intro a u _ hf
    simp [facts, Need.fact, Act.eval] at hf
    go_simp
  · intro a u _ hf
    simp [facts, Need.fact, Ent.val, Act.eval] at hf
    go_simp
  · intro a u _ hf
    simp [facts, Need.fact, Ent.val, Act.eval] at hf
    go_simp
  · intro a u hG hf
    simp [facts, Need.fact, Ent.val, Act.eval] at hf
    have x0 := cellAt ((hG.block _ (lt_of_some hn1) (by simp)).trans hn1) 0
    simp only [List.getElem?_toArray, List.getElem?_cons_zero, List.getElem?_cons_succ] at x0
    go_simp
  · intro a u hG hf
    simp [facts, Need.fact, Ent.val, Act.eval] at hf
    refine ⟨_, _, by go_simp, (hrir u hG.below).mono ?_⟩
    rintro e w' ⟨rfl, hb⟩
    exact ⟨_, rfl, hb, rfl⟩
  · intro a u _ hf
    simp [facts, Need.fact, Ent.val, Act.eval] at hf
    go_simp
  intro u lw hw wc hKp hE hI hD
  simp only [allE, Ent.val] at hE
  obtain ⟨u0, u1, u2, u3, u4, u5, u6, u7, u8, u9, -⟩ := hE
  simp only [Nat.reduceAdd] at u0 u1 u2 u3 u4 u5 u6 u7 u8 u9
  simp only [allPut, Act.put, Nat.reduceAdd, u0, u1, u2, u3, u4, u5, u6, u7, u8, u9]
  try simp only [List.setIfInBounds_toArray, List.set_cons_zero, List.set_cons_succ]
  clear hI hD u0 u1 u2 u3 u4 u5 u6 u7 u8 u9 hrir x0 z0
  have BB := hKp.below
  clear hKp B0
  cases rr with
  | false =>
    go_wp2
    go_ret
    exact ⟨rfl, BB⟩
  | true =>
  simp only [Bool.not_true]
  have x1 := cellAt ((BB.block n1 (lt_of_some hn1)).trans hn1) 1
  simp only [List.getElem?_toArray, List.getElem?_cons_zero, List.getElem?_cons_succ] at x1
  go_wp2
  go_loopw [44] (fun i wr => ∃ k : Nat, k ≤ H.length ∧ i = .int .i64 k ∧ anyN F1 k = false ∧ Below w.heap.size w wr) (fun i _ => H.length - (intOf i).toNat)
  case atStart => exact ⟨0, Nat.zero_le _, rfl, rfl, BB⟩
  case round =>
    clear BB
    obtain ⟨k, hk, rfl, ho, hB⟩ := hrel
    rcases Nat.lt_or_ge k H.length with hlt | hge
    · have hlt' : (k : Int) < (H.length : Int) := by omega
      have hx : H[k]? = some (H.getD k []) := by rw [List.getD_eq_getElem?_getD, List.getElem?_eq_getElem hlt]; rfl
      obtain ⟨bh, z, rfl, hc, hR⟩ := H1 k _ hx
      have gc := (hB.cell (World.block_lt_of_cell? w _ hc)).trans hc
      have x0 := cellAt ((hB.block n2 (lt_of_some hn2)).trans hn2) 0
      simp only [List.getElem?_toArray, List.getElem?_cons_zero, List.getElem?_cons_succ] at x0
      have hcall := fun u hu => by have h9 := rcr_q hR R2.r R2.b R2.bx u hu; rw [hF1 k] at h9; exact h9
      clear hc hx
      go_wp2_with (go_at_call 142; refine JR.StopM.out ?_)
      refine ⟨?_⟩
      refine (hcall _ hB).mono ?_
      rintro e wq ⟨rfl, hb⟩
      have Bq := hB.trans (hb.mono hB.size)
      clear hcall hb hB gc
      have hstep : anyN F1 (k + 1) = (anyN F1 k || F1 k) := rfl
      obtain ⟨q, hq⟩ : ∃ q, F1 k = q := ⟨_, rfl⟩
      cases q with
      | true =>
        have hz := anyN_hit hlt hq
        go_wp2
        go_ret
        exact ⟨by simp [hz], Bq⟩
      | false =>
        rw [ho, hq] at hstep
        go_wp2
        exact ⟨⟨k + 1, hlt, by go_num, hstep, Bq⟩, by simp only [intOf]; omega⟩
    · obtain rfl : k = H.length := by omega
      have ho0 := ho
      have x2 := cellAt ((hB.block n2 (lt_of_some hn2)).trans hn2) 1
      simp only [List.getElem?_toArray, List.getElem?_cons_zero, List.getElem?_cons_succ] at x2
      have BB := hB
      clear ho hB hk hge
      go_wp2
      go_loopw [60] (fun i wr => ∃ k : Nat, k ≤ G.length ∧ i = .int .i64 k ∧ anyN F2 k = false ∧ Below w.heap.size w wr) (fun i _ => G.length - (intOf i).toNat)
      case atStart => exact ⟨0, Nat.zero_le _, rfl, rfl, BB⟩
      case round =>
        clear BB
        obtain ⟨k, hk, rfl, ho, hB⟩ := hrel
        rcases Nat.lt_or_ge k G.length with hlt | hge
        · have hlt' : (k : Int) < (G.length : Int) := by omega
          have hx : G[k]? = some (G.getD k []) := by rw [List.getD_eq_getElem?_getD, List.getElem?_eq_getElem hlt]; rfl
          obtain ⟨bh, z, rfl, hc, hR⟩ := H2 k _ hx
          have gc := (hB.cell (World.block_lt_of_cell? w _ hc)).trans hc
          have x0 := cellAt ((hB.block n1 (lt_of_some hn1)).trans hn1) 0
          simp only [List.getElem?_toArray, List.getElem?_cons_zero, List.getElem?_cons_succ] at x0
          have hcall := fun u hu => by have h9 := rcr_q hR R1.r R1.b R1.bx u hu; rw [hF2 k] at h9; exact h9
          clear hc hx
          go_wp2_with (go_at_call 142; refine JR.StopM.out ?_)
          refine ⟨?_⟩
          refine (hcall _ hB).mono ?_
          rintro e wq ⟨rfl, hb⟩
          have Bq := hB.trans (hb.mono hB.size)
          clear hcall hb hB gc
          have hstep : anyN F2 (k + 1) = (anyN F2 k || F2 k) := rfl
          obtain ⟨q, hq⟩ : ∃ q, F2 k = q := ⟨_, rfl⟩
          cases q with
          | true =>
            have hz := anyN_hit hlt hq
            go_wp2
            go_ret
            exact ⟨by simp [hz], Bq⟩
          | false =>
            rw [ho, hq] at hstep
            go_wp2
            exact ⟨⟨k + 1, hlt, by go_num, hstep, Bq⟩, by simp only [intOf]; omega⟩
        · obtain rfl : k = G.length := by omega
          go_wp2
          go_ret
          exact ⟨by simp [ho0, ho], hB⟩
/-- ringContainsLine -/
theorem rcl_c {f : RF} {T : TypeId} {y : Value} {l m : List (Int × Int)} {w : World} (R : RG f T y l w) (K : Nat) (hK : K ≤ 2) (hm12 : m.length ≤ 12) (hm2 : 2 ≤ m.length) (hm : ∀ p ∈ m, Bn3 p) (lo c : Nat) (S : SkP K false m 83 lo w.heap.size c w) (u : World) (hu : Below w.heap.size w u) :
    Calls Tryz.prog 162 #[.iface T y, .pointer (some ⟨c, 0, none⟩), .bool false] u fun e w' => e = .returned (.bool (rcrV l false m)) ∧ Below u.heap.size u w' := by
  have hc := rcr_q (R.below hu) (bsRing K hK (cl := false) hm12 hm2 (fun h => (nomatch h)) (fun p hp => (hm p hp).b) ((S.below hu).wide (Nat.le_refl _) hu.size)) hm (ppBF_bd hm2 (fun p hp => (hm p hp).b)) u (Below.refl _ _)
  go_enter Tryz.func162, Tryz.ntmps162
  go_wp2_with (go_at_call 142; refine JR.StopM.out ?_)
  refine ⟨?_⟩
  refine hc.mono ?_
  rintro e w1 ⟨rfl, hb⟩
  go_wp2
  go_ret
  exact ⟨rfl, hb⟩
set_option maxRecDepth 100000 in
set_option maxHeartbeats 8000000 in
theorem pil_c {n1 : Nat} {l m : List (Int × Int)} {H : List (List (Int × Int))} {w : World} (P1 : PolM n1 l H w) (K : Nat) (hK : K ≤ 2) (hm12 : m.length ≤ 12) (hm2 : 2 ≤ m.length) (hm : ∀ p ∈ m, Bn3 p) (lo c : Nat) (S : SkP K false m 83 lo w.heap.size c w) :
    Calls Tryz.prog 161 #[.pointer (some ⟨n1, 0, none⟩), .pointer (some ⟨c, 0, none⟩)] w fun e w' => e = .returned (.bool (polLV l H m)) ∧ Below w.heap.size w w' := by
  obtain ⟨f1, T1, y1, A1, c1, hn1, R1, H1, l1⟩ := P1
  have x0 := cellAt hn1 0
  simp only [List.getElem?_toArray, List.getElem?_cons_zero, List.getElem?_cons_succ] at x0
  have hrir := fun u hu => ril_q R1 K hm12 hm2 hm lo c S u hu
  obtain ⟨rr, hrr⟩ : ∃ r, rilV l m = r := ⟨_, rfl⟩
  simp only [hrr] at hrir
  unfold polLV
  obtain ⟨F1, hF⟩ : ∃ F : Nat → Bool, (fun k => rcrV (H.getD k []) false m) = F := ⟨_, rfl⟩
  have hF1 := fun k => congrFun hF k
  simp only [hrr, hF]
  clear hrr hF
  have B0 := Below.refl w.heap.size w
  go_enter Tryz.func161, Tryz.ntmps161
  go_wp2_with (go_at_call 132; refine JR.StopM.out ?_)
  refine ⟨?_⟩
  refine (hrir _ B0).mono ?_
  rintro e w1 ⟨rfl, hb⟩
  have BB := B0.trans (hb.mono B0.size)
  clear hb B0 hrir x0
  cases rr with
  | false =>
    go_wp2
    go_ret
    exact ⟨rfl, BB⟩
  | true =>
  have x1 := cellAt ((BB.block n1 (lt_of_some hn1)).trans hn1) 1
  simp only [List.getElem?_toArray, List.getElem?_cons_zero, List.getElem?_cons_succ] at x1
  go_wp2
  go_loopw [32] (fun i wr => ∃ k : Nat, k ≤ H.length ∧ i = .int .i64 k ∧ anyN F1 k = false ∧ Below w.heap.size w wr) (fun i _ => H.length - (intOf i).toNat)
  case atStart => exact ⟨0, Nat.zero_le _, rfl, rfl, BB⟩
  case round =>
    clear BB
    obtain ⟨k, hk, rfl, ho, hB⟩ := hrel
    rcases Nat.lt_or_ge k H.length with hlt | hge
    · have hlt' : (k : Int) < (H.length : Int) := by omega
      have hx : H[k]? = some (H.getD k []) := by rw [List.getD_eq_getElem?_getD, List.getElem?_eq_getElem hlt]; rfl
      obtain ⟨bh, z, rfl, hc, hR⟩ := H1 k _ hx
      have gc := (hB.cell (World.block_lt_of_cell? w _ hc)).trans hc
      have hSw := S
      have hcall := fun u hu => by have h9 := rcl_c hR K hK hm12 hm2 hm lo c hSw u hu; rw [hF1 k] at h9; exact h9
      clear hc hx
      go_wp2_with (go_at_call 162; refine JR.StopM.out ?_)
      refine ⟨?_⟩
      refine (hcall _ hB).mono ?_
      rintro e wq ⟨rfl, hb⟩
      have Bq := hB.trans (hb.mono hB.size)
      clear hcall hb hB gc
      have hstep : anyN F1 (k + 1) = (anyN F1 k || F1 k) := rfl
      obtain ⟨q, hq⟩ : ∃ q, F1 k = q := ⟨_, rfl⟩
      cases q with
      | true =>
        have hz := anyN_hit hlt hq
        go_wp2
        go_ret
        exact ⟨by simp [hz], Bq⟩
      | false =>
        rw [ho, hq] at hstep
        go_wp2
        exact ⟨⟨k + 1, hlt, by go_num, hstep, Bq⟩, by simp only [intOf]; omega⟩
    · obtain rfl : k = H.length := by omega
      go_wp2
      go_ret
      exact ⟨by simp [ho], hB⟩
end Go.Proofs.YtlpibeloedfbdaaGreat
set_option linter.unusedSimpArgs false
set_option linter.unusedVariables false
/-! What shapes of every kind say of a point, a rectangle, a line and a polygon (printed by gen/ln.py). -/
namespace Go.Proofs.YtlpibeloedfbdaaGreat
open Go.RowKit PF JR
theorem pRect_c (px py r0 r1 r2 r3 : Nat) (q : Bool) (w : World) (h : ∀ u, Calls Tryz.prog 22 #[.agg #[fl r0, fl r1, fl r2, fl r3], .agg #[fl px, fl py]] u fun e u' => e = .returned (.bool q) ∧ Below u.heap.size u u') :
    Calls Tryz.prog 94 #[.agg #[fl px, fl py], .agg #[fl r0, fl r1, fl r2, fl r3]] w fun e w' => e = .returned (.bool (q)) ∧ Below w.heap.size w w' := by
  have st0 := ((Blk.nil w).push (b := w.heap.size) rfl #[fl px, fl py] 50).push (b := w.heap.size + 1) (by simp) #[fl r0, fl r1, fl r2, fl r3] 52
  have z00 := st0.cell 1 rfl 0
  have z01 := st0.cell 1 rfl 1
  have z10 := st0.cell 0 rfl 0
  have z11 := st0.cell 0 rfl 1
  have z12 := st0.cell 0 rfl 2
  have z13 := st0.cell 0 rfl 3
  simp only [List.getElem?_toArray, List.getElem?_cons_zero, List.getElem?_cons_succ] at z00 z01 z10 z11 z12 z13
  go_enter Tryz.func94, Tryz.ntmps94
  go_wp2_with (go_at_call 22; refine JR.StopM.out ?_)
  refine ⟨?_⟩
  refine (h _).mono ?_
  rintro e w1 ⟨rfl, hb⟩
  have st1 := st0.ext hb
  go_wp2
  go_ret
  exact ⟨rfl, st1.hb⟩
theorem pLine_c (px py c : Nat) (q : Bool) (w : World) (h : ∀ u, Below w.heap.size w u → Calls Tryz.prog 100 #[.pointer (some ⟨c, 0, none⟩), .agg #[fl px, fl py]] u fun e u' => e = .returned (.bool q) ∧ Below u.heap.size u u') :
    Calls Tryz.prog 91 #[.agg #[fl px, fl py], .pointer (some ⟨c, 0, none⟩)] w fun e w' => e = .returned (.bool (q)) ∧ Below w.heap.size w w' := by
  have st0 := (Blk.nil w).push (b := w.heap.size) rfl #[fl px, fl py] 50
  have z00 := st0.cell 0 rfl 0
  have z01 := st0.cell 0 rfl 1
  simp only [List.getElem?_toArray, List.getElem?_cons_zero, List.getElem?_cons_succ] at z00 z01
  go_enter Tryz.func91, Tryz.ntmps91
  go_wp2_with (go_at_call 100; refine JR.StopM.out ?_)
  refine ⟨?_⟩
  refine (h _ st0.hb).mono ?_
  rintro e w1 ⟨rfl, hb⟩
  have st1 := st0.ext hb
  go_wp2
  go_ret
  exact ⟨rfl, st1.hb⟩
theorem pPoly_c (px py c : Nat) (q : Bool) (w : World) (h : ∀ u, Below w.heap.size w u → Calls Tryz.prog 101 #[.pointer (some ⟨c, 0, none⟩), .agg #[fl px, fl py]] u fun e u' => e = .returned (.bool q) ∧ Below u.heap.size u u') :
    Calls Tryz.prog 93 #[.agg #[fl px, fl py], .pointer (some ⟨c, 0, none⟩)] w fun e w' => e = .returned (.bool (q)) ∧ Below w.heap.size w w' := by
  have st0 := (Blk.nil w).push (b := w.heap.size) rfl #[fl px, fl py] 50
  have z00 := st0.cell 0 rfl 0
  have z01 := st0.cell 0 rfl 1
  simp only [List.getElem?_toArray, List.getElem?_cons_zero, List.getElem?_cons_succ] at z00 z01
  go_enter Tryz.func93, Tryz.ntmps93
  go_wp2_with (go_at_call 101; refine JR.StopM.out ?_)
  refine ⟨?_⟩
  refine (h _ st0.hb).mono ?_
  rintro e w1 ⟨rfl, hb⟩
  have st1 := st0.ext hb
  go_wp2
  go_ret
  exact ⟨rfl, st1.hb⟩
theorem pPt_c (px py qx qy : Nat) (q : Bool) (w : World) (hpe : ∀ u, (binOp .eql 50 (.agg #[fl px, fl py]) (.agg #[fl qx, fl qy])).run Tryz.prog u = .ok (.bool q) u) :
    Calls Tryz.prog 92 #[.agg #[fl px, fl py], .agg #[fl qx, fl qy]] w fun e w' => e = .returned (.bool (q)) ∧ Below w.heap.size w w' := by
  have st0 := ((Blk.nil w).push (b := w.heap.size) rfl #[fl px, fl py] 50).push (b := w.heap.size + 1) (by simp) #[fl qx, fl qy] 50
  have z00 := st0.cell 1 rfl 0
  have z01 := st0.cell 1 rfl 1
  have z10 := st0.cell 0 rfl 0
  have z11 := st0.cell 0 rfl 1
  simp only [List.getElem?_toArray, List.getElem?_cons_zero, List.getElem?_cons_succ] at z00 z01 z10 z11
  go_enter Tryz.func92, Tryz.ntmps92
  go_wp2
  go_ret
  exact ⟨rfl, st0.hb⟩
theorem rLine_c (r0 r1 r2 r3 c : Nat) (q : Bool) (w : World) (h : ∀ u, Below w.heap.size w u → Calls Tryz.prog 132 #[.iface 52 (.agg #[fl r0, fl r1, fl r2, fl r3]), .pointer (some ⟨c, 0, none⟩), .bool true] u fun e u' => e = .returned (.bool q) ∧ Below u.heap.size u u') :
    Calls Tryz.prog 128 #[.agg #[fl r0, fl r1, fl r2, fl r3], .pointer (some ⟨c, 0, none⟩)] w fun e w' => e = .returned (.bool (q)) ∧ Below w.heap.size w w' := by
  have st0 := (Blk.nil w).push (b := w.heap.size) rfl #[fl r0, fl r1, fl r2, fl r3] 52
  have z00 := st0.cell 0 rfl 0
  have z01 := st0.cell 0 rfl 1
  have z02 := st0.cell 0 rfl 2
  have z03 := st0.cell 0 rfl 3
  simp only [List.getElem?_toArray, List.getElem?_cons_zero, List.getElem?_cons_succ] at z00 z01 z02 z03
  go_enter Tryz.func128, Tryz.ntmps128
  go_wp2_with (go_at_call 132; refine JR.StopM.out ?_)
  refine ⟨?_⟩
  refine (h _ st0.hb).mono ?_
  rintro e w1 ⟨rfl, hb⟩
  have st1 := st0.ext hb
  go_wp2
  go_ret
  exact ⟨rfl, st1.hb⟩
theorem rPoly_c (r0 r1 r2 r3 c : Nat) (q : Bool) (w : World) (h : ∀ u, Below w.heap.size w u → Calls Tryz.prog 133 #[.pointer (some ⟨c, 0, none⟩), .agg #[fl r0, fl r1, fl r2, fl r3]] u fun e u' => e = .returned (.bool q) ∧ Below u.heap.size u u') :
    Calls Tryz.prog 129 #[.agg #[fl r0, fl r1, fl r2, fl r3], .pointer (some ⟨c, 0, none⟩)] w fun e w' => e = .returned (.bool (q)) ∧ Below w.heap.size w w' := by
  have st0 := (Blk.nil w).push (b := w.heap.size) rfl #[fl r0, fl r1, fl r2, fl r3] 52
  have z00 := st0.cell 0 rfl 0
  have z01 := st0.cell 0 rfl 1
  have z02 := st0.cell 0 rfl 2
  have z03 := st0.cell 0 rfl 3
  simp only [List.getElem?_toArray, List.getElem?_cons_zero, List.getElem?_cons_succ] at z00 z01 z02 z03
  go_enter Tryz.func129, Tryz.ntmps129
  go_wp2_with (go_at_call 133; refine JR.StopM.out ?_)
  refine ⟨?_⟩
  refine (h _ st0.hb).mono ?_
  rintro e w1 ⟨rfl, hb⟩
  have st1 := st0.ext hb
  go_wp2
  go_ret
  exact ⟨rfl, st1.hb⟩
theorem yRect_c (n r0 r1 r2 r3 : Nat) (q : Bool) (w : World) (h : ∀ u k, Below w.heap.size w u → u.heap[k]? = some (.cells #[.iface 52 (.agg #[fl r0, fl r1, fl r2, fl r3]), .slice none 0 0] 90 (0, 0)) → Calls Tryz.prog 137 #[.pointer (some ⟨n, 0, none⟩), .pointer (some ⟨k, 0, none⟩)] u fun e u' => e = .returned (.bool q) ∧ Below u.heap.size u u') :
    Calls Tryz.prog 133 #[.pointer (some ⟨n, 0, none⟩), .agg #[fl r0, fl r1, fl r2, fl r3]] w fun e w' => e = .returned (.bool q) ∧ Below w.heap.size w w' := by
  have st0 := (Blk.nil w).push rfl #[fl r0, fl r1, fl r2, fl r3] 52
  have z0 := st0.cell 0 rfl 0
  have z1 := st0.cell 0 rfl 1
  have z2 := st0.cell 0 rfl 2
  have z3 := st0.cell 0 rfl 3
  simp only [List.getElem?_toArray, List.getElem?_cons_zero, List.getElem?_cons_succ] at z0 z1 z2 z3
  have st1 := st0.push (b := w.heap.size + 1) (by simp) #[.iface 52 (.agg #[fl r0, fl r1, fl r2, fl r3]), .slice none 0 0] 90
  have hk := st1.known 0 _ rfl
  go_enter Tryz.func133, Tryz.ntmps133
  go_wp2_with (go_at_call 137; refine JR.StopM.out ?_)
  refine ⟨?_⟩
  refine (h _ (w.heap.size + 1) st1.hb hk).mono ?_
  rintro e w1 ⟨rfl, hb⟩
  have st2 := st1.ext hb
  go_wp2
  go_ret
  exact ⟨rfl, st2.hb⟩
/-! ## shapes -/
theorem rl_b3 {a b c d : Int} (h1 : Bn3 (a, b)) (h2 : Bn3 (c, d)) : ∀ p ∈ rl a b c d, Bn3 p := by
  intro p hp
  unfold Bn3 at *
  simp only at h1 h2
  simp [rl] at hp
  rcases hp with rfl | rfl | rfl | rfl | rfl <;> simp only <;> omega
theorem rcRG {a b c d : Int} (h1 : a < c) (h2 : b < d) (hb : ∀ p ∈ rl a b c d, Bn3 p) (w : World) : RG rcF 52 (.agg #[fl (fb a), fl (fb b), fl (fb c), fl (fb d)]) (rl a b c d) w :=
  ⟨rcRing h1 h2 (fun p hp => (hb p hp).b) w, rcCp h1 h2 (fun p hp => (hb p hp).b) w, hb⟩
/-- points of a line, of a ring or hole, that are right -/
def okLn (m : List (Int × Int)) : Prop := 2 ≤ m.length ∧ m.length ≤ 12 ∧ ∀ p ∈ m, Bn3 p
def okRn (m : List (Int × Int)) : Prop := 3 ≤ m.length ∧ m.length ≤ 12 ∧ ∀ p ∈ m, Bn3 p
theorem okRn.k {m : List (Int × Int)} (h : okRn m) : okK m := ⟨by have := h.1; omega, trivial, h.2.1, fun p hp => (h.2.2 p hp).b⟩
/-- a polygon that shaped has made -/
structure PolS (n : Nat) (l : List (Int × Int)) (H : List (List (Int × Int))) (w : World) : Prop where
  k : ∃ K lo, K ≤ 2 ∧ PolK K lo w.heap.size w n l H
  l : okRn l
  h : ∀ x ∈ H, okRn x
  m : H.length ≤ 1000
theorem bsRG {K : Nat} (hK : K ≤ 2) {x : List (Int × Int)} (hx : okRn x) {lo b : Nat} {w : World} (S : SkP K true x 81 lo w.heap.size b w) : RG bsF 95 (.pointer (some ⟨b, 0, none⟩)) x w :=
  ⟨bsRing K hK hx.2.1 (by have := hx.1; omega) (fun _ => hx.1) (fun p hp => (hx.2.2 p hp).b) S, bsCp K hK hx.2.1 (by have := hx.1; omega) (fun p hp => (hx.2.2 p hp).b) S, hx.2.2⟩
theorem PolS.p {n : Nat} {l : List (Int × Int)} {H : List (List (Int × Int))} {w : World} (S : PolS n l H w) : PolM n l H w := by
  obtain ⟨⟨K, lo, hK, ve, vs, -, -, hn, ⟨be, rfl, hse⟩, ⟨A, c, rfl, hk⟩⟩, hl, hH, hm⟩ := S
  refine ⟨bsF, _, _, A, c, hn, bsRG hK hl hse, fun k x hx => ?_, hm⟩
  obtain ⟨b, y, rfl, -, -, hc, bx, rfl, hsx⟩ := hk k x hx
  exact ⟨b, _, rfl, hc, bsRG hK (hH x (List.mem_of_getElem? hx)) hsx⟩
theorem PolS.below {n : Nat} {l : List (Int × Int)} {H : List (List (Int × Int))} {w w' : World} (S : PolS n l H w) (hb : Below w.heap.size w w') : PolS n l H w' := by
  obtain ⟨⟨K, lo, hK, hp⟩, hl, hH, hm⟩ := S
  exact ⟨⟨K, lo, hK, (hp.below hb).wide (Nat.le_refl _) hb.size⟩, hl, hH, hm⟩
theorem PolS.pt {n : Nat} {l : List (Int × Int)} {H : List (List (Int × Int))} {w : World} (S : PolS n l H w) {p : Int × Int} (hp : Bn3 p) (u : World) (hu : Below w.heap.size w u) :
    Calls Tryz.prog 101 #[.pointer (some ⟨n, 0, none⟩), .agg #[fl (fb p.1), fl (fb p.2)]] u fun e w' => e = .returned (.bool (polHas l H p)) ∧ Below u.heap.size u w' := by
  obtain ⟨⟨K, lo, hK, hP⟩, hl, hH, hm⟩ := S
  refine polyIP_c n _ _ _ u fun z hz => polHas_c K hK l H hl.k (fun x hx => (hH x hx).k) hm p hp.b (fun x hx k _ => ?_) n lo w hP z (hu.trans (hz.mono hu.size))
  rcases hx with rfl | hx
  · exact ray_q3 hl.2.2 hp k
  · exact ray_q3 (hH x hx).2.2 hp k
/-- two lines -/
def linV (l m : List (Int × Int)) : Bool := if m.length < l.length then anyN (fun k => anyN (fun i => sxs m k l i) (l.length - 1)) (m.length - 1) else anyN (fun i => anyN (fun k => sxs l i m k) (m.length - 1)) (l.length - 1)
end Go.Proofs.YtlpibeloedfbdaaGreat
set_option linter.unusedSimpArgs false
set_option linter.unusedVariables false
/-! A shape of any kind: its four Intersects methods. -/
namespace PF
structure SF where
  ipt : Go.FuncId
  irc : Go.FuncId
  iln : Go.FuncId
  ipl : Go.FuncId
theorem ron_mis {l : List (Int × Int)} {p : Int × Int} {k : Nat} (hno : ¬ ((sgx l k).1 ≤ p.1 ∧ p.1 ≤ (sgx l k).2.2.1 ∧ (sgx l k).2.1 ≤ p.2 ∧ p.2 ≤ (sgx l k).2.2.2)) : ron l p k = false := by
  unfold sgx at hno
  simp only at hno
  unfold ron
  by_cases hy : (p.2 < (at' l k).2 ∧ p.2 < (nxp l k).2) ∨ ((at' l k).2 < p.2 ∧ (nxp l k).2 < p.2)
  · exact rcOn_out hy
  · exact rcOn_outx (by omega)
end PF
namespace Go.Proofs.YtlpibeloedfbdaaGreat
open Go.RowKit PF JR
/-- what a shape says of points (Vp), rectangles (VR), lines (VL) and polygons (VP) -/
structure ShpM (K : Nat) (g : SF) (T : TypeId) (y : Value) (Vp : Int × Int → Bool) (VR : Int → Int → Int → Int → Bool) (VL : List (Int × Int) → Bool) (VP : List (Int × Int) → List (List (Int × Int)) → Bool) (w : World) : Prop where
  mpt : Meth T "IntersectsPoint" g.ipt
  mrc : Meth T "IntersectsRect" g.irc
  mln : Meth T "IntersectsLine" g.iln
  mpl : Meth T "IntersectsPoly" g.ipl
  npt : ∀ u, (nilAhead 299 T y "IntersectsPoint").run Tryz.prog u = .ok (some false) u
  nrc : ∀ u, (nilAhead 299 T y "IntersectsRect").run Tryz.prog u = .ok (some false) u
  nln : ∀ u, (nilAhead 299 T y "IntersectsLine").run Tryz.prog u = .ok (some false) u
  npl : ∀ u, (nilAhead 299 T y "IntersectsPoly").run Tryz.prog u = .ok (some false) u
  cpt : ∀ p, Bn3 p → ∀ u, Below w.heap.size w u → Calls Tryz.prog g.ipt #[y, .agg #[fl (fb p.1), fl (fb p.2)]] u fun e u' => e = .returned (.bool (Vp p)) ∧ Below u.heap.size u u'
  crc : ∀ a b c d, a < c → b < d → Bn3 (a, b) → Bn3 (c, d) → ∀ u, Below w.heap.size w u → Calls Tryz.prog g.irc #[y, .agg #[fl (fb a), fl (fb b), fl (fb c), fl (fb d)]] u fun e u' => e = .returned (.bool (VR a b c d)) ∧ Below u.heap.size u u'
  cln : ∀ m, okLn m → ∀ c lo u, Below w.heap.size w u → SkP K false m 83 lo u.heap.size c u → Calls Tryz.prog g.iln #[y, .pointer (some ⟨c, 0, none⟩)] u fun e u' => e = .returned (.bool (VL m)) ∧ Below u.heap.size u u'
  cpl : ∀ m G n u, Below w.heap.size w u → PolS n m G u → Calls Tryz.prog g.ipl #[y, .pointer (some ⟨n, 0, none⟩)] u fun e u' => e = .returned (.bool (VP m G)) ∧ Below u.heap.size u u'
theorem ShpM.below {K : Nat} {g : SF} {T : TypeId} {y : Value} {Vp : Int × Int → Bool} {VR : Int → Int → Int → Int → Bool} {VL : List (Int × Int) → Bool} {VP : List (Int × Int) → List (List (Int × Int)) → Bool} {w w' : World} (H : ShpM K g T y Vp VR VL VP w) (hb : Below w.heap.size w w') : ShpM K g T y Vp VR VL VP w' :=
  { H with
    cpt := fun p hp u hu => H.cpt p hp u (hb.trans (hu.mono hb.size))
    crc := fun a b c d h1 h2 h3 h4 u hu => H.crc a b c d h1 h2 h3 h4 u (hb.trans (hu.mono hb.size))
    cln := fun m hm c lo u hu => H.cln m hm c lo u (hb.trans (hu.mono hb.size))
    cpl := fun m G n u hu => H.cpl m G n u (hb.trans (hu.mono hb.size)) }
/-- a line and a point -/
theorem linPt {K : Nat} (hK : K ≤ 2) {m : List (Int × Int)} (hm : okLn m) {p : Int × Int} (hp : Bn3 p) (c lo : Nat) (w : World) (S : SkP K false m 83 lo w.heap.size c w) :
    Calls Tryz.prog 100 #[.pointer (some ⟨c, 0, none⟩), .agg #[fl (fb p.1), fl (fb p.2)]] w fun e w' => e = .returned (.bool (anyN (ron m p) (m.length - 1))) ∧ Below w.heap.size w w' :=
  linIP_c c _ _ _ w fun u hu => linHas_c K hK m hm.2.1 hm.1 (fun q hq => (hm.2.2 q hq).b) p hp.b (rin m p) (ron m p) (fun k _ z => ray_q3 hm.2.2 hp k z) (fun k _ h => ron_mis h) c lo w S u hu
/-- a polygon and a rectangle -/
theorem polRc {n : Nat} {l : List (Int × Int)} {H : List (List (Int × Int))} {w : World} (P : PolM n l H w) {a b c d : Int} (h1 : a < c) (h2 : b < d) (h3 : Bn3 (a, b)) (h4 : Bn3 (c, d)) (u : World) (hu : Below w.heap.size w u) :
    Calls Tryz.prog 133 #[.pointer (some ⟨n, 0, none⟩), .agg #[fl (fb a), fl (fb b), fl (fb c), fl (fb d)]] u fun e w' => e = .returned (.bool (polV l H (rl a b c d) [])) ∧ Below u.heap.size u w' :=
  yRect_c n _ _ _ _ _ u fun z k hz hk => pip_c (P.below (hu.trans (hz.mono hu.size))) ⟨rcF, _, _, none, 0, hk, rcRG h1 h2 (rl_b3 h3 h4) z, fun j x hx => by simp at hx, by simp⟩
def pF : SF := ⟨92, 94, 91, 93⟩
def rF : SF := ⟨23, 25, 128, 129⟩
def yF : SF := ⟨101, 133, 161, 137⟩
theorem pShp {K : Nat} (hK : K ≤ 2) {p0 : Int × Int} (hp0 : Bn3 p0) (w : World) : ShpM K pF 50 (.agg #[fl (fb p0.1), fl (fb p0.2)]) (fun p => decide (p0.1 = p.1 ∧ p0.2 = p.2)) (fun a b c d => decide (a ≤ p0.1 ∧ p0.1 ≤ c ∧ b ≤ p0.2 ∧ p0.2 ≤ d)) (fun m => anyN (ron m p0) (m.length - 1)) (fun m G => polHas m G p0) w where
  mpt := ⟨fun _ _ => by kernel_rfl, fun _ _ => by kernel_rfl⟩
  mrc := ⟨fun _ _ => by kernel_rfl, fun _ _ => by kernel_rfl⟩
  mln := ⟨fun _ _ => by kernel_rfl, fun _ _ => by kernel_rfl⟩
  mpl := ⟨fun _ _ => by kernel_rfl, fun _ _ => by kernel_rfl⟩
  npt := fun _ => by kernel_rfl
  nrc := fun _ => by kernel_rfl
  nln := fun _ => by kernel_rfl
  npl := fun _ => by kernel_rfl
  cpt := fun p hp u _ => by
    unfold Bn3 at hp0 hp
    exact pPt_c _ _ _ _ _ u (fun z => eqPt (fb_rep p0.1 (by omega)) (fb_rep p0.2 (by omega)) (fb_rep p.1 (by omega)) (fb_rep p.2 (by omega)) rfl z)
  crc := fun a b c d _ _ h3 h4 u _ => by
    unfold Bn3 at hp0 h3 h4
    simp only at h3 h4
    exact pRect_c _ _ _ _ _ _ _ u (fun z => rcp_c (fb_rep a (by omega)) (fb_rep b (by omega)) (fb_rep c (by omega)) (fb_rep d (by omega)) (fb_rep p0.1 (by omega)) (fb_rep p0.2 (by omega)) z)
  cln := fun m hm c lo u _ S => pLine_c _ _ c _ u fun z hz => linPt hK hm hp0 c lo z ((S.below hz).wide (Nat.le_refl _) hz.size)
  cpl := fun m G n u _ S => pPoly_c _ _ n _ u fun z hz => S.pt hp0 z hz
theorem rShp {K : Nat} {a b c d : Int} (h1 : a < c) (h2 : b < d) (h3 : Bn3 (a, b)) (h4 : Bn3 (c, d)) (w : World) : ShpM K rF 52 (.agg #[fl (fb a), fl (fb b), fl (fb c), fl (fb d)]) (fun p => decide (a ≤ p.1 ∧ p.1 ≤ c ∧ b ≤ p.2 ∧ p.2 ≤ d)) (fun a' b' c' d' => decide (a ≤ c' ∧ a' ≤ c ∧ b ≤ d' ∧ b' ≤ d)) (fun m => rilV (rl a b c d) m) (fun m G => polV m G (rl a b c d) []) w where
  mpt := ⟨fun _ _ => by kernel_rfl, fun _ _ => by kernel_rfl⟩
  mrc := ⟨fun _ _ => by kernel_rfl, fun _ _ => by kernel_rfl⟩
  mln := ⟨fun _ _ => by kernel_rfl, fun _ _ => by kernel_rfl⟩
  mpl := ⟨fun _ _ => by kernel_rfl, fun _ _ => by kernel_rfl⟩
  npt := fun _ => by kernel_rfl
  nrc := fun _ => by kernel_rfl
  nln := fun _ => by kernel_rfl
  npl := fun _ => by kernel_rfl
  cpt := fun p hp u _ => by
    unfold Bn3 at hp h3 h4
    simp only at h3 h4
    exact rip_c (fb_rep a (by omega)) (fb_rep b (by omega)) (fb_rep c (by omega)) (fb_rep d (by omega)) (fb_rep p.1 (by omega)) (fb_rep p.2 (by omega)) u
  crc := fun a' b' c' d' _ _ h5 h6 u _ => by
    unfold Bn3 at h3 h4 h5 h6
    simp only at h3 h4 h5 h6
    exact rir_c (fb_rep a (by omega)) (fb_rep b (by omega)) (fb_rep c (by omega)) (fb_rep d (by omega)) (fb_rep a' (by omega)) (fb_rep b' (by omega)) (fb_rep c' (by omega)) (fb_rep d' (by omega)) u
  cln := fun m hm c0 lo u _ S => rLine_c _ _ _ _ c0 _ u fun z hz => ril_q (rcRG h1 h2 (rl_b3 h3 h4) u) K hm.2.1 hm.1 hm.2.2 lo c0 S z hz
  cpl := fun m G n u _ S => rPoly_c _ _ _ _ n _ u fun z hz => polRc S.p h1 h2 h3 h4 z hz
theorem yShp {K : Nat} (hK : K ≤ 2) {n0 : Nat} {l : List (Int × Int)} {H : List (List (Int × Int))} {w : World} (S0 : PolS n0 l H w) : ShpM K yF 61 (.pointer (some ⟨n0, 0, none⟩)) (fun p => polHas l H p) (fun a b c d => polV l H (rl a b c d) []) (fun m => polLV l H m) (fun m G => polV l H m G) w where
  mpt := ⟨fun _ _ => by kernel_rfl, fun _ _ => by kernel_rfl⟩
  mrc := ⟨fun _ _ => by kernel_rfl, fun _ _ => by kernel_rfl⟩
  mln := ⟨fun _ _ => by kernel_rfl, fun _ _ => by kernel_rfl⟩
  mpl := ⟨fun _ _ => by kernel_rfl, fun _ _ => by kernel_rfl⟩
  npt := fun _ => by kernel_rfl
  nrc := fun _ => by kernel_rfl
  nln := fun _ => by kernel_rfl
  npl := fun _ => by kernel_rfl
  cpt := fun p hp u hu => S0.pt hp u hu
  crc := fun a b c d h1 h2 h3 h4 u hu => polRc S0.p h1 h2 h3 h4 u hu
  cln := fun m hm c lo u hu S => pil_c (S0.p.below hu) K hK hm.2.1 hm.1 hm.2.2 lo c S
  cpl := fun m G n u hu S => pip_c (S0.p.below hu) S.p
end Go.Proofs.YtlpibeloedfbdaaGreat
set_option linter.unusedSimpArgs false
set_option linter.unusedVariables false
/-! impl.Intersects (printed by gen/lp.py). -/
namespace Go.Proofs.YtlpibeloedfbdaaGreat
open Go.RowKit PF JR
theorem _root_.Go.Proofs.YtlpibeloedfbdaaGreat.PolK.narrow {K lo hi : Nat} {w : World} {n : Nat} {l : List (Int × Int)} {H : List (List (Int × Int))} (h : PolK K lo hi w n l H) : PolK K lo w.heap.size w n l H := by
  obtain ⟨ve, vs, g1, g2, hn, ⟨be, rfl, hse⟩, ⟨A, c, rfl, hk⟩⟩ := h
  refine ⟨_, _, g1, lt_of_some hn, hn, ⟨be, rfl, hse.narrow⟩, ⟨A, c, rfl, fun k x hx => ?_⟩⟩
  obtain ⟨b, y, rfl, q1, q2, hc, bx, rfl, hsx⟩ := hk k x hx
  exact ⟨b, _, rfl, q1, World.block_lt_of_cell? w _ hc, hc, bx, rfl, hsx.narrow⟩
end Go.Proofs.YtlpibeloedfbdaaGreat
set_option linter.unusedSimpArgs false
set_option linter.unusedVariables false
/-! impl.shaped of points and rectangles; impl.Intersects of shapes of any kind. -/
namespace Go.Proofs.YtlpibeloedfbdaaGreat
open Go.RowKit PF JR
/-- a shape that is a point -/
theorem shaped0_c (x y : Int) (v vh o : Value) (w : World) (hv : SlP w v [(x, y)]) :
    Calls Tryz.prog 15 #[.agg #[.int .i64 0, v, vh], o] w fun e w' => e = .returned (.iface 50 (.agg #[fl (fb x), fl (fb y)])) ∧ Below w.heap.size w w' := by
  have st0 := (Blk.nil w).push rfl #[.int .i64 0, v, vh] 28
  have s0 := hv.below st0.hb
  have hl := hv.len
  obtain ⟨A, c, rfl⟩ := hl
  clear hv
  go_enter Tryz.func15, Tryz.ntmps15
  go_wp2_with (first | (go_at_call 17; refine (cornerK_c 0 [(x, y)] 0 (x, y) rfl (by simp) _ _ _ s0).mono ?_; rintro e w1 ⟨rfl, hb⟩) | (go_at_call 20; refine (pt_c x y _).mono ?_; rintro e w2 ⟨rfl, hc⟩))
  go_ret
  exact ⟨rfl, st0.hb.trans ((hb.trans (hc.mono hb.size)).mono (by simp))⟩

set_option maxHeartbeats 1000000 in
/-- a shape that is a rectangle -/
theorem shaped1_c (X0 Y0 X1 Y1 : Int) (v vh o : Value) (w : World) (hv : SlP w v [(X0, Y0), (X1, Y1)]) :
    Calls Tryz.prog 15 #[.agg #[.int .i64 1, v, vh], o] w fun e w' => e = .returned (.iface 52 (.agg #[fl (fb X0), fl (fb Y0), fl (fb X1), fl (fb Y1)])) ∧ Below w.heap.size w w' := by
  have st0 := (Blk.nil w).push rfl #[.int .i64 1, v, vh] 28
  have s0 := hv.below st0.hb
  have hl := hv.len
  obtain ⟨A, c, hvv⟩ := hl
  have hvv' : v = .slice A 2 c := hvv
  subst hvv'
  clear hv hvv
  have c0 := st0.cell 0 rfl 0
  have c1 := st0.cell 0 rfl 1
  have c2 := st0.cell 0 rfl 2
  simp only [List.getElem?_toArray, List.getElem?_cons_zero, List.getElem?_cons_succ] at c0 c1 c2
  go_enter Tryz.func15, Tryz.ntmps15
  go_wp2
  refine wp_region_K [] [.val (.agg #[.int .i64 1, .slice A 2 c, vh]),
      .val (.agg #[.int .i64 X0, .int .i64 Y0]),
      .val (.agg #[.int .i64 1, .slice A 2 c, vh]),
      .val (.agg #[.int .i64 X1, .int .i64 Y1]),
      .val (.agg #[.int .i64 X0, .int .i64 Y0, .int .i64 X1, .int .i64 Y1]),
      .val (.agg #[fl (fb X0), fl (fb Y0), fl (fb X1), fl (fb Y1)]),
      .val (.iface 52 (.agg #[fl (fb X0), fl (fb Y0), fl (fb X1), fl (fb Y1)])),
      .val (.iface 52 (.agg #[fl (fb X0), fl (fb Y0), fl (fb X1), fl (fb Y1)]))]
    [[.ini 2], [.frm 0 12], [.ini 2], [.frm 2 14], [.frm 1 13, .frm 3 15], [.frm 4 16], [.frm 5 17], [.frm 6 18]]
    mixed (by kernel_rfl) (by kernel_rfl) (allPre_of ⟨trivial, trivial, trivial, trivial, trivial, trivial, trivial, trivial, trivial⟩)
    ⟨OpOk.quiet rfl ?_,
      OpOk.call rfl ?_,
      OpOk.quiet rfl ?_,
      OpOk.call rfl ?_,
      OpOk.quiet rfl ?_,
      OpOk.call rfl ?_,
      OpOk.quiet rfl ?_,
      OpOk.quiet rfl ?_, trivial⟩ ?_
  · intro a u hG hf
    simp [facts, Need.fact, Act.eval] at hf
    have hc := True.intro
    have y0 := (hG.cell (p := ⟨w.heap.size, 0, none⟩) (st0.lt 0 rfl) (by simp)).trans c0
    have y1 := (hG.cell (p := ⟨w.heap.size, 1, none⟩) (st0.lt 0 rfl) (by simp)).trans c1
    have y2 := (hG.cell (p := ⟨w.heap.size, 2, none⟩) (st0.lt 0 rfl) (by simp)).trans c2

    go_simp
  · intro a u hG hf
    simp [facts, Need.fact, Ent.val, Act.eval] at hf
    have s1 := s0.below (Keep.below hG)
    have hcr : Calls Tryz.prog 17 #[.agg #[.int .i64 1, .slice A 2 c, vh], .int .i64 0] u fun e w' => e = .returned (.agg #[.int .i64 X0, .int .i64 Y0]) ∧ Below u.heap.size u w' := cornerK_c 1 [(X0, Y0), (X1, Y1)] 0 (X0, Y0) rfl (by simp) _ _ _ s1
    refine ⟨_, _, by go_simp, hcr.mono ?_⟩
    rintro e w' ⟨rfl, hb⟩
    exact ⟨_, rfl, hb, rfl⟩
  · intro a u hG hf
    simp [facts, Need.fact, Act.eval] at hf
    have hc := True.intro
    have y0 := (hG.cell (p := ⟨w.heap.size, 0, none⟩) (st0.lt 0 rfl) (by simp)).trans c0
    have y1 := (hG.cell (p := ⟨w.heap.size, 1, none⟩) (st0.lt 0 rfl) (by simp)).trans c1
    have y2 := (hG.cell (p := ⟨w.heap.size, 2, none⟩) (st0.lt 0 rfl) (by simp)).trans c2

    go_simp
  · intro a u hG hf
    simp [facts, Need.fact, Ent.val, Act.eval] at hf
    have s1 := s0.below (Keep.below hG)
    have hcr : Calls Tryz.prog 17 #[.agg #[.int .i64 1, .slice A 2 c, vh], .int .i64 1] u fun e w' => e = .returned (.agg #[.int .i64 X1, .int .i64 Y1]) ∧ Below u.heap.size u w' := cornerK_c 1 [(X0, Y0), (X1, Y1)] 1 (X1, Y1) rfl (by simp) _ _ _ s1
    refine ⟨_, _, by go_simp, hcr.mono ?_⟩
    rintro e w' ⟨rfl, hb⟩
    exact ⟨_, rfl, hb, rfl⟩
  · intro a u _ hf
    simp [facts, Need.fact, Ent.val, Act.eval] at hf
    go_simp
  · intro a u _ hf
    simp [facts, Need.fact, Ent.val, Act.eval] at hf
    refine ⟨_, _, by go_simp, (rect_c X0 Y0 X1 Y1 _).mono ?_⟩
    rintro e w' ⟨rfl, hb⟩
    exact ⟨_, rfl, hb, rfl⟩
  · intro a u _ hf
    simp [facts, Need.fact, Ent.val, Act.eval] at hf
    go_simp
  · intro a u _ hf
    simp [facts, Need.fact, Ent.val, Act.eval] at hf
    go_simp
  intro u lw hw wc hK hE hI hD
  simp [allE, Ent.val] at hE
  obtain ⟨u0, u1, u2, u3, u4, u5, u6, u7⟩ := hE
  simp only [allPut, Act.put, u0, u2, u4, u5, u6, u7]
  clear u0 u2 u4 u5 u6 u7
  have hB := Keep.belowX (B := w.heap.size) hK st0.hb st0.hb.size (by simp)
  clear hK hI hD c0 c1 c2 s0 st0
  try simp only [List.setIfInBounds_toArray, List.set_cons_zero, List.set_cons_succ]
  go_wp2
  go_ret
  exact ⟨rfl, hB⟩
/-- a shape that is right -/
def ShOk (K : Int) (l : List (Int × Int)) (H : List (List (Int × Int))) : Prop :=
  (∀ p ∈ l, Bn3 p) ∧ H.length ≤ 3 ∧ (∀ h ∈ H, okRn h) ∧
  ((K = 0 ∧ ∃ p, l = [p]) ∨ (K = 1 ∧ ∃ a b c d, l = [(a, b), (c, d)] ∧ a < c ∧ b < d) ∨ (K = 2 ∧ 2 ≤ l.length ∧ l.length ≤ 12) ∨ (K = 3 ∧ 3 ≤ l.length ∧ l.length ≤ 12))
/-- by the kind of the second shape -/
def byK (J : Int) (m : List (Int × Int)) (G : List (List (Int × Int))) (Vp : Int × Int → Bool) (VR : Int → Int → Int → Int → Bool) (VL : List (Int × Int) → Bool) (VP : List (Int × Int) → List (List (Int × Int)) → Bool) : Bool :=
  if J = 0 then Vp (at' m 0) else if J = 1 then VR (at' m 0).1 (at' m 0).2 (at' m 1).1 (at' m 1).2 else if J = 2 then VL m else VP m G
/-- a rectangle's two corners, as a ring -/
def rll (l : List (Int × Int)) : List (Int × Int) := rl (at' l 0).1 (at' l 0).2 (at' l 1).1 (at' l 1).2
/-- whether two shapes meet -/
def mtV (K : Int) (l : List (Int × Int)) (H : List (List (Int × Int))) (J : Int) (m : List (Int × Int)) (G : List (List (Int × Int))) : Bool :=
  if K = 0 then byK J m G (fun p => decide ((at' l 0).1 = p.1 ∧ (at' l 0).2 = p.2)) (fun a b c d => decide (a ≤ (at' l 0).1 ∧ (at' l 0).1 ≤ c ∧ b ≤ (at' l 0).2 ∧ (at' l 0).2 ≤ d)) (fun m => anyN (ron m (at' l 0)) (m.length - 1)) (fun m G => polHas m G (at' l 0))
  else if K = 1 then byK J m G (fun p => decide ((at' l 0).1 ≤ p.1 ∧ p.1 ≤ (at' l 1).1 ∧ (at' l 0).2 ≤ p.2 ∧ p.2 ≤ (at' l 1).2)) (fun a' b' c' d' => decide ((at' l 0).1 ≤ c' ∧ a' ≤ (at' l 1).1 ∧ (at' l 0).2 ≤ d' ∧ b' ≤ (at' l 1).2)) (fun m => rilV (rll l) m) (fun m G => polV m G (rll l) [])
  else if K = 2 then byK J m G (fun p => anyN (ron l p) (l.length - 1)) (fun a b c d => rilV (rl a b c d) l) (fun m => linV l m) (fun m G => polLV m G l)
  else byK J m G (fun p => polHas l H p) (fun a b c d => polV l H (rl a b c d) []) (fun m => polLV l H m) (fun m G => polV l H m G)
end Go.Proofs.YtlpibeloedfbdaaGreat
