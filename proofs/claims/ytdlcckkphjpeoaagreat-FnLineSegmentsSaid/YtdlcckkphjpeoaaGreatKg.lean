import Derived.Test.YtdlcckkphjpeoaaGreatKp
import Derived.Test.YtdlcckkphjpeoaaGreatAwake
set_option linter.unusedSimpArgs false
set_option linter.unusedVariables false
/-! FnLineSegments: the walk (printed by gen/kg.py). -/
namespace JR
open Go Go.RowKit
theorem wanted_of {ops : Array Oper} {o : Oper} {a : Act} {j t : Nat} {b : Bool} (hg : o.guard = some (j, b)) (hd : (ops[j]?).bind (·.dst) = some t) (hv : a.eval (.tmp t) = .bool b) : Region.wanted o (yielded ops a.tmps) = true := by
  have h : a.tmps[t]? = some (.bool b) := by
    cases hh : a.tmps[t]? with
    | none => simp [Act.eval, hh, undef] at hv
    | some x => simp [Act.eval, hh] at hv; rw [hv]
  have e : ((ops[j]?).bind (·.dst)).bind (a.tmps[·]?) = some (.bool b) := by simp only [hd]; exact h
  have y : yielded ops a.tmps j = some b := by unfold yielded; simp only [e]
  unfold Region.wanted
  simp [hg, y]
section
variable {P : Program} {ops : Array Oper} {Q : Exit → Act → World → Prop} {G : World → Prop} {B0 : Nat} {plan : List Ent} {a0 : Act} {i : Nat} {o : Oper} {ns : List Need}
theorem OpOk.quietG {x : Value} {j t : Nat} {b : Bool} (hg : o.guard = some (j, b)) (hd : (ops[j]?).bind (·.dst) = some t) (hv : ∀ a w, facts plan a0 a w ns → a.eval (.tmp t) = .bool b)
    (h : ∀ a w, G w → facts plan a0 a w ns → (execOp a.eval o).run P w = .ok (.value x) w) :
    OpOk P ops Q G B0 plan a0 i o (.val x) ns := by
  intro a w hG hf
  refine ⟨fun _ => ?_, fun h => by rw [wanted_of hg hd (hv a w hf)] at h; cases h⟩
  unfold Oper.wp
  rw [h a w hG hf]
  exact ⟨x, rfl, rfl, .inl (Ext.refl w)⟩
theorem OpOk.callG {e : Ent} {j t : Nat} {b : Bool} (hg : o.guard = some (j, b)) (hd : (ops[j]?).bind (·.dst) = some t) (hv : ∀ a w, facts plan a0 a w ns → a.eval (.tmp t) = .bool b)
    (h : ∀ a w, G w → facts plan a0 a w ns → ∃ f args, (execOp a.eval o).run P w = .ok (.enter f args) w ∧
    Calls P f args w fun x w' => ∃ v, x = .returned v ∧ Ext w w' ∧ e.E v w.heap.size w'.heap.size a w') :
    OpOk P ops Q G B0 plan a0 i o e ns := by
  intro a w hG hf
  refine ⟨fun _ => ?_, fun h => by rw [wanted_of hg hd (hv a w hf)] at h; cases h⟩
  obtain ⟨f, args, h1, h2⟩ := h a w hG hf
  unfold Oper.wp
  rw [h1, Oper.upon_enter]
  refine h2.mono fun x w' hx => ?_
  obtain ⟨v, rfl, hv, he⟩ := hx
  exact ⟨v, rfl, he, .inl hv⟩
end
section
variable {P : Program} {ops : Array Oper} {Q : Exit → Act → World → Prop} {G : World → Prop} {B0 : Nat} {plan : List Ent} {a0 : Act} {i : Nat} {o : Oper} {ns : List Need}
theorem unwanted_of {ops : Array Oper} {o : Oper} {a : Act} {j t : Nat} {b : Bool} (hg : o.guard = some (j, b)) (hd : (ops[j]?).bind (·.dst) = some t) (hv : a.eval (.tmp t) = .bool (!b)) : Region.wanted o (yielded ops a.tmps) = false := by
  have h : a.tmps[t]? = some (.bool (!b)) := by
    cases hh : a.tmps[t]? with
    | none => simp [Act.eval, hh, undef] at hv
    | some x => simp [Act.eval, hh] at hv; rw [hv]
  have e : ((ops[j]?).bind (·.dst)).bind (a.tmps[·]?) = some (.bool (!b)) := by simp only [hd]; exact h
  have y : yielded ops a.tmps j = some (!b) := by unfold yielded; simp only [e]
  unfold Region.wanted
  simp [hg, y]
/-- an operation that its guard passes over -/
theorem OpOk.skipG {j t : Nat} {b : Bool} (hg : o.guard = some (j, b)) (hd : (ops[j]?).bind (·.dst) = some t) (hv : ∀ a w, facts plan a0 a w ns → a.eval (.tmp t) = .bool (!b)) :
    OpOk P ops Q G B0 plan a0 i o (.val undef) ns := by
  intro a w _ hf
  refine ⟨fun h => absurd h (by rw [unwanted_of hg hd (hv a w hf)]; decide), fun _ => rfl⟩
end
end JR
namespace Go.Proofs.YtdlcckkphjpeoaaGreat
open Go.RowKit PF JR
theorem saF0 (x0 x1 x2 x3 x4 x5 x6 x7 : Value) (u : World) : (Instr.field 47 (.agg #[x0, x1, x2, x3, x4, x5, x6, x7]) 0).run Tryz.prog u = .ok x0 u := by kernel_rfl
theorem saF3 (x0 x1 x2 x3 x4 x5 x6 x7 : Value) (u : World) : (Instr.field 47 (.agg #[x0, x1, x2, x3, x4, x5, x6, x7]) 3).run Tryz.prog u = .ok x3 u := by kernel_rfl
theorem _root_.PF.SlP.oneB {w u : World} {L : List (Nat × Array Value × TypeId)} (h : Blk w u L) (i : Nat) {b : Nat} {T : TypeId} {p : Int × Int} (hi : L[i]? = some (b, #[.int .i64 p.1, .int .i64 p.2], T)) : SlP u (.slice (some ⟨b, 0, none⟩) 1 1) [p] := by
  have c0 := h.cell i hi 0
  have c1 := h.cell i hi 1
  simp only [List.getElem?_toArray, List.getElem?_cons_zero, List.getElem?_cons_succ] at c0 c1
  refine ⟨_, 1, rfl, fun k q hq => ?_⟩
  rcases k with _ | k
  · simp at hq
    subst hq
    exact ⟨_, 0, rfl, by simpa using c0, by simpa using c1⟩
  · simp at hq
theorem wrapAdd {k k1 : Nat} (h : k + 1 = k1) (hk : k ≤ 1000) : IntKind.i64.wrap ((k : Int) + 1) = (k1 : Int) := by
  subst h
  unfold IntKind.wrap
  simp [IntKind.bits, IntKind.signed]
  omega
set_option maxRecDepth 100000 in
set_option maxHeartbeats 16000000 in
theorem lineSeg_c (KD : Nat) (hKD : KD ≤ 255) (l m : List (Int × Int)) (p : Int × Int) (v vm : Value) (w : World) (hv : SlP w v l) (hm : SlP w vm m) (hl0 : l.length ≤ 9223372036854775807) (hm0 : m.length ≤ 9223372036854775807) :
    Calls Tryz.prog 5 #[v, vm, .agg #[.int .i64 p.1, .int .i64 p.2], .int .u8 KD] w fun e w' => e = .returned (.bool true) ∧ Below w.heap.size w w' := by
  have st0 := (Blk.nil w).push rfl #[.int .i64 p.1, .int .i64 p.2] 29
  have s0 := hv.below st0.hb
  have m0 := hm.below st0.hb
  obtain ⟨A0, c0, rfl⟩ : ∃ A c, v = .slice A l.length c := by obtain ⟨A, c, h, -⟩ := hv; exact ⟨A, c, h⟩
  obtain ⟨A1, c1, rfl⟩ : ∃ A c, vm = .slice A m.length c := by obtain ⟨A, c, h, -⟩ := hm; exact ⟨A, c, h⟩
  clear hv hm
  rcases Nat.lt_or_ge 2147483647 l.length with hbig | l1
  · have hbig' : (2147483647 : Int) < (l.length : Int) := by omega
    clear s0 m0
    generalize l.length = n at *
    generalize m.length = n' at *
    go_enter Tryz.func5, Tryz.ntmps5
    go_wp2
    go_ret
    exact ⟨rfl, st0.hb⟩
  have l2 : ¬ (2147483647 : Int) < (l.length : Int) := by omega
  rcases Nat.lt_or_ge 2147483647 m.length with hbig | m1
  · have hbig' : (2147483647 : Int) < (m.length : Int) := by omega
    clear s0 m0
    generalize l.length = n at *
    generalize m.length = n' at *
    go_enter Tryz.func5, Tryz.ntmps5
    go_wp2
    go_ret
    exact ⟨rfl, st0.hb⟩
  have m2 : ¬ (2147483647 : Int) < (m.length : Int) := by omega
  have hvp := varyPoints_c l 2 8 l1 (.slice A0 l.length c0) _ s0
  generalize hvo : decide ((2 : Int) ≤ l.length ∧ (l.length : Int) ≤ 8 ∧ l.all okP = true) = vo at *
  go_enter Tryz.func5, Tryz.ntmps5
  go_wp2_with (go_at_call 9; refine JR.StopM.out ?_)
  refine ⟨?_⟩
  refine hvp.mono ?_
  rintro e w1 ⟨rfl, hb⟩
  have st1 := st0.ext hb
  have s1 := s0.below hb
  have m3 := m0.below hb
  clear hb st0 s0 m0 hvp
  cases vo with
  | false =>
    clear hvo
    go_wp2_with (go_at_call 10; refine JR.StopM.out ?_)
    refine ⟨?_⟩
    refine (awake_c _).mono ?_
    rintro e wA ⟨rfl, hbA⟩
    have stA := st1.ext hbA
    go_wp2
    go_ret
    exact ⟨rfl, stA.hb⟩

  | true =>
  have hvo := of_decide_eq_true hvo
  have hvp := varyPoints_c m 2 8 m1 (.slice A1 m.length c1) _ m3
  generalize hvo2 : decide ((2 : Int) ≤ m.length ∧ (m.length : Int) ≤ 8 ∧ m.all okP = true) = vo2 at *
  go_wp2_with (go_at_call 9; refine JR.StopM.out ?_)
  refine ⟨?_⟩
  refine hvp.mono ?_
  rintro e w2 ⟨rfl, hb⟩
  have st2 := st1.ext hb
  have s2 := s1.below hb
  have m4 := m3.below hb
  clear hb st1 s1 m3 hvp
  cases vo2 with
  | false =>
    clear hvo hvo2
    go_wp2_with (go_at_call 10; refine JR.StopM.out ?_)
    refine ⟨?_⟩
    refine (awake_c _).mono ?_
    rintro e wA ⟨rfl, hbA⟩
    have stA := st2.ext hbA
    go_wp2
    go_ret
    exact ⟨rfl, stA.hb⟩

  | true =>
  have hvo2 := of_decide_eq_true hvo2
  have b0 := st2.cell 0 rfl 0
  have b1 := st2.cell 0 rfl 1
  simp only [List.getElem?_toArray, List.getElem?_cons_zero, List.getElem?_cons_succ] at b0 b1
  have st3 := st2.push (b := w2.heap.size) rfl #[.int .i64 p.1, .int .i64 p.2] 29
  have sp := SlP.oneB st3 0 rfl
  have hvp := varyPoints_c [p] 1 1 (by simp) _ _ sp
  generalize hvq : decide ((1 : Int) ≤ [p].length ∧ ([p].length : Int) ≤ 1 ∧ [p].all okP = true) = vq at *
  go_wp2_with (go_at_call 9; refine JR.StopM.out ?_)
  refine ⟨?_⟩
  refine hvp.mono ?_
  rintro e w3 ⟨rfl, hb⟩
  have hb23 := ((Below.refl _ w2).alloc (Nat.le_refl _) (.cells #[.int .i64 p.1, .int .i64 p.2] 29)).trans (hb.mono (by simp))
  have st4 := st2.ext hb23
  have s4 := s2.below hb23
  have m5 := m4.below hb23
  clear hb st2 st3 sp hvp b0 b1 s2 m4 hb23
  cases vq with
  | false =>
    clear hvo hvo2 hvq
    go_wp2_with (go_at_call 10; refine JR.StopM.out ?_)
    refine ⟨?_⟩
    refine (awake_c _).mono ?_
    rintro e wA ⟨rfl, hbA⟩
    have stA := st4.ext hbA
    go_wp2
    go_ret
    exact ⟨rfl, stA.hb⟩

  | true =>
  have hll : 2 ≤ l.length ∧ l.length ≤ 8 := by omega
  have hml : 2 ≤ m.length ∧ m.length ≤ 8 := by omega
  have hbl : ∀ q ∈ l, Bn1 q := fun q hq => by
    have := List.all_eq_true.1 hvo.2.2 q hq
    simp [okP] at this
    unfold Bn1; omega
  have hbm : ∀ q ∈ m, Bn1 q := fun q hq => by
    have := List.all_eq_true.1 hvo2.2.2 q hq
    simp [okP] at this
    unfold Bn1; omega
  have hbp : Bn1 p := by
    have := of_decide_eq_true hvq
    simp [okP] at this
    unfold Bn1; omega
  clear hvo hvo2 hvq
  have hvg := fun u (h : Below w3.heap.size w3 u) => varyOf_n l l1 _ _ (s4.below h)
  have hvh := fun u (h : Below w3.heap.size w3 u) => varyOf_n m m1 _ _ (m5.below h)
  go_wp2_with (go_at_call 15; refine JR.StopM.out ?_)
  refine ⟨?_⟩
  refine (hvg _ (Below.refl _ _)).mono ?_
  rintro e w4 ⟨g, rfl, hsg, hb4⟩
  obtain ⟨Ag, cg, rfl⟩ : ∃ A c, g = .slice A l.length c := by obtain ⟨A, c, h, -⟩ := hsg; exact ⟨A, c, h⟩
  go_wp2_with (go_at_call 15; refine JR.StopM.out ?_)
  refine ⟨?_⟩
  refine (hvh _ hb4).mono ?_
  rintro e w5 ⟨h, rfl, hsh, hb5⟩
  have sg5 := hsg.p.below hb5
  have sh5 := hsh.p
  have hb45 := hb4.trans (hb5.mono hb4.size)
  have st5 := st4.ext hb45
  have s5 := s4.below hb45
  have m6 := m5.below hb45
  clear hvg hvh hsg hsh hb4 hb5 hb45 st4 s4 m5
  obtain ⟨bl, ol, cl, e1, ltl, hcl⟩ := s5.all (by omega)
  obtain ⟨bm, om, cm, e2, ltm, hcm⟩ := m6.all (by omega)
  obtain ⟨bg, og, cg2, e3, ltg, hcg⟩ := sg5.all (by omega)
  obtain ⟨bh, oh, ch, rfl, lth, hch⟩ := sh5.all (by omega)
  obtain ⟨rfl, rfl⟩ : A0 = some ⟨bl, ol, none⟩ ∧ c0 = cl := by simpa using e1
  obtain ⟨rfl, rfl⟩ : A1 = some ⟨bm, om, none⟩ ∧ c1 = cm := by simpa using e2
  obtain ⟨rfl, rfl⟩ : Ag = some ⟨bg, og, none⟩ ∧ cg = cg2 := by simpa using e3
  clear e1 e2 e3 sg5 sh5 l2 m2
  have ltp := st5.lt 0 rfl
  have pc0 := st5.cell 0 rfl 0
  have pc1 := st5.cell 0 rfl 1
  simp only [List.getElem?_toArray, List.getElem?_cons_zero, List.getElem?_cons_succ] at pc0 pc1
  obtain ⟨n1, hn1⟩ : ∃ n1, n1 + 1 = l.length := ⟨l.length - 1, by omega⟩
  obtain ⟨n2, hn2⟩ : ∃ n2, n2 + 1 = m.length := ⟨m.length - 1, by omega⟩
  have B5 := Below.refl w5.heap.size w5
  go_wp2
  go_loopw [11, 12, 13] (fun hs mt i wr => ∃ j : Nat, j ≤ n1 ∧ i = .int .i64 j ∧ hs = .bool (anyN (ron l p) j) ∧ mt = .bool (anyN (fun i => anyN (qq l m i) n2) j) ∧ (∀ i k, i < j → k < n2 → oo l m i k = false) ∧ Below w5.heap.size w5 wr) (fun _ _ i _ => n1 - (intOf i).toNat)
  case atStart => exact ⟨0, Nat.zero_le _, rfl, rfl, rfl, fun i k h => absurd h (Nat.not_lt_zero _), B5⟩
  case round =>
    clear B5
    obtain ⟨j, hj, rfl, rfl, rfl, hno, hB⟩ := hrel
    obtain ⟨M, hM⟩ : ∃ M, anyN (fun i => anyN (qq l m i) n2) j = M := ⟨_, rfl⟩
    obtain ⟨S, hS⟩ : ∃ S, anyN (ron l p) j = S := ⟨_, rfl⟩
    simp only [hM, hS]
    obtain ⟨j1, hj1⟩ : ∃ j1, j + 1 = j1 := ⟨_, rfl⟩
    have wj := wrapAdd hj1 (by omega)
    rcases Nat.lt_or_ge j n1 with hlt | hge
    · have hlt' : (j1 : Int) < (l.length : Int) := by omega
      have hjl : (j : Int) < (l.length : Int) := by omega
      go_wp2
      go_loopw [12, 14] (fun mt i wr => ∃ k : Nat, k ≤ n2 ∧ i = .int .i64 k ∧ mt = .bool (M || anyN (qq l m j) k) ∧ (∀ i, i < k → oo l m j i = false) ∧ Below w5.heap.size w5 wr) (fun _ i _ => n2 - (intOf i).toNat)
      case atStart => exact ⟨0, Nat.zero_le _, rfl, by simp [anyN], fun i h => absurd h (Nat.not_lt_zero _), hB⟩
      case round =>
        clear hB
        obtain ⟨k, hk, rfl, rfl, hnk, hB⟩ := hrel
        obtain ⟨N, hN⟩ : ∃ N, (M || anyN (qq l m j) k) = N := ⟨_, rfl⟩
        simp only [hN]
        obtain ⟨k1, hk1⟩ : ∃ k1, k + 1 = k1 := ⟨_, rfl⟩
        have wk := wrapAdd hk1 (by omega)
        rcases Nat.lt_or_ge k n2 with hlk | hgk
        · have hlk' : (k1 : Int) < (m.length : Int) := by omega
          have hkl : (k : Int) < (m.length : Int) := by omega
          have ej : at' l j1 = nxp l j := by unfold nxp; rw [if_neg (by omega), hj1]
          have ek : at' m k1 = nxp m k := by unfold nxp; rw [if_neg (by omega), hk1]
          obtain ⟨g0, g1⟩ := hcg j (by omega)
          obtain ⟨g2, g3⟩ := hcg j1 (by omega)
          obtain ⟨h0, h1⟩ := hch k (by omega)
          obtain ⟨h2, h3⟩ := hch k1 (by omega)
          rw [ej] at g2 g3
          rw [ek] at h2 h3
          have g0 := (hB.cell (p := ⟨bg, og + j * 2, none⟩) ltg).trans g0
          have g1 := (hB.cell (p := ⟨bg, og + j * 2 + 1, none⟩) ltg).trans g1
          have g2 := (hB.cell (p := ⟨bg, og + j1 * 2, none⟩) ltg).trans g2
          have g3 := (hB.cell (p := ⟨bg, og + j1 * 2 + 1, none⟩) ltg).trans g3
          have h0 := (hB.cell (p := ⟨bh, oh + k * 2, none⟩) lth).trans h0
          have h1 := (hB.cell (p := ⟨bh, oh + k * 2 + 1, none⟩) lth).trans h1
          have h2 := (hB.cell (p := ⟨bh, oh + k1 * 2, none⟩) lth).trans h2
          have h3 := (hB.cell (p := ⟨bh, oh + k1 * 2 + 1, none⟩) lth).trans h3
          have ltgr := Nat.lt_of_lt_of_le ltg hB.size
          have lthr := Nat.lt_of_lt_of_le lth hB.size
          have hov := ovl_q hbl hbm j k
          obtain ⟨O, hO⟩ : ∃ O, oo l m j k = O := ⟨_, rfl⟩
          rw [hO] at hov
          go_wp2
          refine wp_region_K [] [.val (.slice (some ⟨bg, og, none⟩) l.length cg), .val (.int .i64 j), .val (.pointer (some ⟨bg, og + j * 2, none⟩)), .val (.agg #[.int .i64 (at' l j).1, .int .i64 (at' l j).2]), .val (.slice (some ⟨bg, og, none⟩) l.length cg), .val (.int .i64 j), .val (.int .i64 j1), .val (.pointer (some ⟨bg, og + j1 * 2, none⟩)), .val (.agg #[.int .i64 (nxp l j).1, .int .i64 (nxp l j).2]), .val (.slice (some ⟨bh, oh, none⟩) m.length ch), .val (.int .i64 k), .val (.pointer (some ⟨bh, oh + k * 2, none⟩)), .val (.agg #[.int .i64 (at' m k).1, .int .i64 (at' m k).2]), .val (.slice (some ⟨bh, oh, none⟩) m.length ch), .val (.int .i64 k), .val (.int .i64 k1), .val (.pointer (some ⟨bh, oh + k1 * 2, none⟩)), .val (.agg #[.int .i64 (nxp m k).1, .int .i64 (nxp m k).2]), .val (.bool O)]
            [[.ini 9], [.ini 13], [.frm 0 60, .frm 1 61], [.frm 2 62], [.ini 9], [.ini 13], [.frm 5 65], [.frm 4 64, .frm 6 66], [.frm 7 67], [.ini 10], [.ini 14], [.frm 9 69, .frm 10 70], [.frm 11 71], [.ini 10], [.ini 14], [.frm 14 74], [.frm 13 73, .frm 15 75], [.frm 16 76], [.frm 3 63, .frm 8 68, .frm 12 72, .frm 17 77]]
            mixed (by kernel_rfl) (by kernel_rfl) (allPre_of ⟨trivial, trivial, trivial, trivial, trivial, trivial, trivial, trivial, trivial, trivial, trivial, trivial, trivial, trivial, trivial, trivial, trivial, trivial, trivial, trivial⟩)
            ⟨OpOk.quiet rfl ?_, OpOk.quiet rfl ?_, OpOk.quiet rfl ?_, OpOk.quiet rfl ?_, OpOk.quiet rfl ?_, OpOk.quiet rfl ?_, OpOk.quiet rfl ?_, OpOk.quiet rfl ?_, OpOk.quiet rfl ?_, OpOk.quiet rfl ?_, OpOk.quiet rfl ?_, OpOk.quiet rfl ?_, OpOk.quiet rfl ?_, OpOk.quiet rfl ?_, OpOk.quiet rfl ?_, OpOk.quiet rfl ?_, OpOk.quiet rfl ?_, OpOk.quiet rfl ?_, OpOk.call rfl ?_, trivial⟩ ?_
          · intro a u _ hf
            simp [facts, Need.fact, Act.eval] at hf
            go_simp
          · intro a u _ hf
            simp [facts, Need.fact, Act.eval] at hf
            go_simp
          · intro a u _ hf
            simp [facts, Need.fact, Ent.val, Act.eval] at hf
            go_simp
          · intro a u hG hf
            simp [facts, Need.fact, Ent.val, Act.eval] at hf
            have y0 := (hG.cell (p := ⟨bg, og + j * 2, none⟩) ltgr (by simp)).trans g0
            have y1 := (hG.cell (p := ⟨bg, og + j * 2 + 1, none⟩) ltgr (by simp)).trans g1
            go_simp
          · intro a u _ hf
            simp [facts, Need.fact, Act.eval] at hf
            go_simp
          · intro a u _ hf
            simp [facts, Need.fact, Act.eval] at hf
            go_simp
          · intro a u _ hf
            simp [facts, Need.fact, Ent.val, Act.eval] at hf
            go_simp
          · intro a u _ hf
            simp [facts, Need.fact, Ent.val, Act.eval] at hf
            go_simp
          · intro a u hG hf
            simp [facts, Need.fact, Ent.val, Act.eval] at hf
            have y0 := (hG.cell (p := ⟨bg, og + j1 * 2, none⟩) ltgr (by simp)).trans g2
            have y1 := (hG.cell (p := ⟨bg, og + j1 * 2 + 1, none⟩) ltgr (by simp)).trans g3
            go_simp
          · intro a u _ hf
            simp [facts, Need.fact, Act.eval] at hf
            go_simp
          · intro a u _ hf
            simp [facts, Need.fact, Act.eval] at hf
            go_simp
          · intro a u _ hf
            simp [facts, Need.fact, Ent.val, Act.eval] at hf
            go_simp
          · intro a u hG hf
            simp [facts, Need.fact, Ent.val, Act.eval] at hf
            have y0 := (hG.cell (p := ⟨bh, oh + k * 2, none⟩) lthr (by simp)).trans h0
            have y1 := (hG.cell (p := ⟨bh, oh + k * 2 + 1, none⟩) lthr (by simp)).trans h1
            go_simp
          · intro a u _ hf
            simp [facts, Need.fact, Act.eval] at hf
            go_simp
          · intro a u _ hf
            simp [facts, Need.fact, Act.eval] at hf
            go_simp
          · intro a u _ hf
            simp [facts, Need.fact, Ent.val, Act.eval] at hf
            go_simp
          · intro a u _ hf
            simp [facts, Need.fact, Ent.val, Act.eval] at hf
            go_simp
          · intro a u hG hf
            simp [facts, Need.fact, Ent.val, Act.eval] at hf
            have y0 := (hG.cell (p := ⟨bh, oh + k1 * 2, none⟩) lthr (by simp)).trans h2
            have y1 := (hG.cell (p := ⟨bh, oh + k1 * 2 + 1, none⟩) lthr (by simp)).trans h3
            go_simp
          · intro a u hG hf
            simp [facts, Need.fact, Ent.val, Act.eval] at hf
            refine ⟨_, _, by go_simp, (hov u).mono ?_⟩
            rintro e w' ⟨rfl, hb⟩
            exact ⟨_, rfl, hb, rfl⟩
          intro u lw hw wc hKp hE hI hD
          simp only [allE, Ent.val] at hE
          obtain ⟨u0, u1, u2, u3, u4, u5, u6, u7, u8, u9, u10, u11, u12, u13, u14, u15, u16, u17, u18, -⟩ := hE
          simp only [Nat.reduceAdd] at u0 u1 u2 u3 u4 u5 u6 u7 u8 u9 u10 u11 u12 u13 u14 u15 u16 u17 u18
          simp only [allPut, Act.put, Nat.reduceAdd, u0, u1, u2, u3, u4, u5, u6, u7, u8, u9, u10, u11, u12, u13, u14, u15, u16, u17, u18]
          try simp only [List.setIfInBounds_toArray, List.set_cons_zero, List.set_cons_succ]
          clear hI hD u0 u1 u2 u3 u4 u5 u6 u7 u8 u9 u10 u11 u12 u13 u14 u15 u16 u17 u18 hov g0 g1 g2 g3 h0 h1 h2 h3

          have B6 := hKp.belowX hB hB.size (by simp)
          clear hKp hB ltgr lthr
          cases O with
          | true =>
            have st6 := st5.ext B6
            go_wp2_with (go_at_call 10; refine JR.StopM.out ?_)
            refine ⟨?_⟩
            refine (awake_c _).mono ?_
            rintro e wA ⟨rfl, hbA⟩
            have stA := st6.ext hbA
            go_wp2
            go_ret
            exact ⟨rfl, stA.hb⟩

          | false =>
          obtain ⟨g0, g1⟩ := hcl j (by omega)
          obtain ⟨g2, g3⟩ := hcl j1 (by omega)
          obtain ⟨h0, h1⟩ := hcm k (by omega)
          obtain ⟨h2, h3⟩ := hcm k1 (by omega)
          rw [ej] at g2 g3
          rw [ek] at h2 h3
          have g0 := (B6.cell (p := ⟨bl, ol + j * 2, none⟩) ltl).trans g0
          have g1 := (B6.cell (p := ⟨bl, ol + j * 2 + 1, none⟩) ltl).trans g1
          have g2 := (B6.cell (p := ⟨bl, ol + j1 * 2, none⟩) ltl).trans g2
          have g3 := (B6.cell (p := ⟨bl, ol + j1 * 2 + 1, none⟩) ltl).trans g3
          have h0 := (B6.cell (p := ⟨bm, om + k * 2, none⟩) ltm).trans h0
          have h1 := (B6.cell (p := ⟨bm, om + k * 2 + 1, none⟩) ltm).trans h1
          have h2 := (B6.cell (p := ⟨bm, om + k1 * 2, none⟩) ltm).trans h2
          have h3 := (B6.cell (p := ⟨bm, om + k1 * 2 + 1, none⟩) ltm).trans h3
          have ltlr := Nat.lt_of_lt_of_le ltl B6.size
          have ltmr := Nat.lt_of_lt_of_le ltm B6.size
          obtain ⟨r0, r1, r2, z0, z1, z2, z3, hsk⟩ := sask_q hbl hbm (i := j) (k := k) hO
          have hnk2 : ∀ i, i < k + 1 → oo l m j i = false := fun i hi => by
            by_cases e : i = k
            · subst e; exact hO
            · exact hnk i (by omega)
          have hstep : (M || anyN (qq l m j) (k + 1)) = (N || qq l m j k) := by rw [← hN, anyN, Bool.or_assoc]
          have hfd := saF3
          obtain ⟨Q, hQ⟩ : ∃ Q, qq l m j k = Q := ⟨_, rfl⟩
          rw [hQ] at hsk hstep
          cases N with
          | true =>
            go_wp2
            refine wp_region_K [] [.val (.bool true), .val (.bool true), .val undef, .val undef, .val undef, .val undef, .val undef, .val undef, .val undef, .val undef, .val undef, .val undef, .val undef, .val undef, .val undef, .val undef, .val undef, .val undef, .val undef, .val undef, .val undef, .val undef, .val (.bool true), .val (.bool true)]
              [[.ini 12], [.frm 0 80], [.frm 1 81], [.frm 1 81], [.frm 1 81], [.frm 1 81], [.frm 1 81], [.frm 1 81], [.frm 1 81], [.frm 1 81], [.frm 1 81], [.frm 1 81], [.frm 1 81], [.frm 1 81], [.frm 1 81], [.frm 1 81], [.frm 1 81], [.frm 1 81], [.frm 1 81], [.frm 1 81], [.frm 1 81], [.frm 1 81], [.frm 1 81], [.frm 22 102]]
              mixed (by kernel_rfl) (by kernel_rfl) (allPre_of ⟨trivial, trivial, trivial, trivial, trivial, trivial, trivial, trivial, trivial, trivial, trivial, trivial, trivial, trivial, trivial, trivial, trivial, trivial, trivial, trivial, trivial, trivial, trivial, trivial, trivial⟩)
              ⟨OpOk.quiet rfl ?_, OpOk.quiet rfl ?_, OpOk.skipG rfl (by kernel_rfl) (fun a w hf => by obtain ⟨h1, -⟩ := hf; exact h1.elim fun _ h => h.elim fun _ h => h), OpOk.skipG rfl (by kernel_rfl) (fun a w hf => by obtain ⟨h1, -⟩ := hf; exact h1.elim fun _ h => h.elim fun _ h => h), OpOk.skipG rfl (by kernel_rfl) (fun a w hf => by obtain ⟨h1, -⟩ := hf; exact h1.elim fun _ h => h.elim fun _ h => h), OpOk.skipG rfl (by kernel_rfl) (fun a w hf => by obtain ⟨h1, -⟩ := hf; exact h1.elim fun _ h => h.elim fun _ h => h), OpOk.skipG rfl (by kernel_rfl) (fun a w hf => by obtain ⟨h1, -⟩ := hf; exact h1.elim fun _ h => h.elim fun _ h => h), OpOk.skipG rfl (by kernel_rfl) (fun a w hf => by obtain ⟨h1, -⟩ := hf; exact h1.elim fun _ h => h.elim fun _ h => h), OpOk.skipG rfl (by kernel_rfl) (fun a w hf => by obtain ⟨h1, -⟩ := hf; exact h1.elim fun _ h => h.elim fun _ h => h), OpOk.skipG rfl (by kernel_rfl) (fun a w hf => by obtain ⟨h1, -⟩ := hf; exact h1.elim fun _ h => h.elim fun _ h => h), OpOk.skipG rfl (by kernel_rfl) (fun a w hf => by obtain ⟨h1, -⟩ := hf; exact h1.elim fun _ h => h.elim fun _ h => h), OpOk.skipG rfl (by kernel_rfl) (fun a w hf => by obtain ⟨h1, -⟩ := hf; exact h1.elim fun _ h => h.elim fun _ h => h), OpOk.skipG rfl (by kernel_rfl) (fun a w hf => by obtain ⟨h1, -⟩ := hf; exact h1.elim fun _ h => h.elim fun _ h => h), OpOk.skipG rfl (by kernel_rfl) (fun a w hf => by obtain ⟨h1, -⟩ := hf; exact h1.elim fun _ h => h.elim fun _ h => h), OpOk.skipG rfl (by kernel_rfl) (fun a w hf => by obtain ⟨h1, -⟩ := hf; exact h1.elim fun _ h => h.elim fun _ h => h), OpOk.skipG rfl (by kernel_rfl) (fun a w hf => by obtain ⟨h1, -⟩ := hf; exact h1.elim fun _ h => h.elim fun _ h => h), OpOk.skipG rfl (by kernel_rfl) (fun a w hf => by obtain ⟨h1, -⟩ := hf; exact h1.elim fun _ h => h.elim fun _ h => h), OpOk.skipG rfl (by kernel_rfl) (fun a w hf => by obtain ⟨h1, -⟩ := hf; exact h1.elim fun _ h => h.elim fun _ h => h), OpOk.skipG rfl (by kernel_rfl) (fun a w hf => by obtain ⟨h1, -⟩ := hf; exact h1.elim fun _ h => h.elim fun _ h => h), OpOk.skipG rfl (by kernel_rfl) (fun a w hf => by obtain ⟨h1, -⟩ := hf; exact h1.elim fun _ h => h.elim fun _ h => h), OpOk.skipG rfl (by kernel_rfl) (fun a w hf => by obtain ⟨h1, -⟩ := hf; exact h1.elim fun _ h => h.elim fun _ h => h), OpOk.skipG rfl (by kernel_rfl) (fun a w hf => by obtain ⟨h1, -⟩ := hf; exact h1.elim fun _ h => h.elim fun _ h => h), OpOk.quiet rfl ?_, OpOk.quiet rfl ?_, trivial⟩ ?_
            · intro a u _ hf
              simp [facts, Need.fact, Act.eval] at hf
              go_simp
            · intro a u _ hf
              simp [facts, Need.fact, Ent.val, Act.eval] at hf
              go_simp
            · intro a u _ hf
              simp [facts, Need.fact, Ent.val, Act.eval] at hf
              go_simp
            · intro a u _ hf
              simp [facts, Need.fact, Ent.val, Act.eval] at hf
              go_simp
            intro u lw hw wc hKp hE hI hD
            simp only [allE, Ent.val] at hE
            obtain ⟨u0, u1, u2, u3, u4, u5, u6, u7, u8, u9, u10, u11, u12, u13, u14, u15, u16, u17, u18, u19, u20, u21, u22, u23, -⟩ := hE
            simp only [Nat.reduceAdd] at u0 u1 u2 u3 u4 u5 u6 u7 u8 u9 u10 u11 u12 u13 u14 u15 u16 u17 u18 u19 u20 u21 u22 u23
            simp only [allPut, Act.put, Nat.reduceAdd, u0, u1, u2, u3, u4, u5, u6, u7, u8, u9, u10, u11, u12, u13, u14, u15, u16, u17, u18, u19, u20, u21, u22, u23]
            try simp only [List.setIfInBounds_toArray, List.set_cons_zero, List.set_cons_succ]
            clear hI hD u0 u1 u2 u3 u4 u5 u6 u7 u8 u9 u10 u11 u12 u13 u14 u15 u16 u17 u18 u19 u20 u21 u22 u23 hsk g0 g1 g2 g3 h0 h1 h2 h3
            have B7 := hKp.belowX B6 B6.size (by simp)
            clear hKp B6 ltlr ltmr hfd
            rw [Bool.true_or] at hstep
            go_wp2
            go_roundw
            case rel => exact ⟨k + 1, hlk, by subst hk1; first | rfl | go_num, by rw [hstep], hnk2, B7⟩
            case measure => simp only [intOf]; omega

          | false =>
            go_wp2
            refine wp_region_K [] [.val (.bool false), .val (.bool false), .val (.slice (some ⟨bl, ol, none⟩) l.length c0), .val (.int .i64 j), .val (.pointer (some ⟨bl, ol + j * 2, none⟩)), .val (.agg #[.int .i64 (at' l j).1, .int .i64 (at' l j).2]), .val (.slice (some ⟨bl, ol, none⟩) l.length c0), .val (.int .i64 j), .val (.int .i64 j1), .val (.pointer (some ⟨bl, ol + j1 * 2, none⟩)), .val (.agg #[.int .i64 (nxp l j).1, .int .i64 (nxp l j).2]), .val (.slice (some ⟨bm, om, none⟩) m.length c1), .val (.int .i64 k), .val (.pointer (some ⟨bm, om + k * 2, none⟩)), .val (.agg #[.int .i64 (at' m k).1, .int .i64 (at' m k).2]), .val (.slice (some ⟨bm, om, none⟩) m.length c1), .val (.int .i64 k), .val (.int .i64 k1), .val (.pointer (some ⟨bm, om + k1 * 2, none⟩)), .val (.agg #[.int .i64 (nxp m k).1, .int .i64 (nxp m k).2]), .val (.agg #[.bool r0, .bool r1, .bool r2, .bool Q, .int .i64 z0, .int .i64 z1, .int .i64 z2, .int .i64 z3]), .val (.bool Q), .val (.bool Q), .val (.bool Q)]
              [[.ini 12], [.frm 0 80], [.frm 1 81, .ini 0], [.frm 1 81, .ini 13], [.frm 1 81, .frm 2 82, .frm 3 83], [.frm 1 81, .frm 4 84], [.frm 1 81, .ini 0], [.frm 1 81, .ini 13], [.frm 1 81, .frm 7 87], [.frm 1 81, .frm 6 86, .frm 8 88], [.frm 1 81, .frm 9 89], [.frm 1 81, .ini 1], [.frm 1 81, .ini 14], [.frm 1 81, .frm 11 91, .frm 12 92], [.frm 1 81, .frm 13 93], [.frm 1 81, .ini 1], [.frm 1 81, .ini 14], [.frm 1 81, .frm 16 96], [.frm 1 81, .frm 15 95, .frm 17 97], [.frm 1 81, .frm 18 98], [.frm 1 81, .frm 5 85, .frm 10 90, .frm 14 94, .frm 19 99], [.frm 1 81, .frm 20 100], [.frm 1 81, .frm 21 101], [.frm 22 102]]
              mixed (by kernel_rfl) (by kernel_rfl) (allPre_of ⟨trivial, trivial, trivial, trivial, trivial, trivial, trivial, trivial, trivial, trivial, trivial, trivial, trivial, trivial, trivial, trivial, trivial, trivial, trivial, trivial, trivial, trivial, trivial, trivial, trivial⟩)
              ⟨OpOk.quiet rfl ?_, OpOk.quiet rfl ?_, OpOk.quietG rfl (by kernel_rfl) (fun a w hf => by obtain ⟨h1, -⟩ := hf; exact h1.elim fun _ h => h.elim fun _ h => h) ?_, OpOk.quietG rfl (by kernel_rfl) (fun a w hf => by obtain ⟨h1, -⟩ := hf; exact h1.elim fun _ h => h.elim fun _ h => h) ?_, OpOk.quietG rfl (by kernel_rfl) (fun a w hf => by obtain ⟨h1, -⟩ := hf; exact h1.elim fun _ h => h.elim fun _ h => h) ?_, OpOk.quietG rfl (by kernel_rfl) (fun a w hf => by obtain ⟨h1, -⟩ := hf; exact h1.elim fun _ h => h.elim fun _ h => h) ?_, OpOk.quietG rfl (by kernel_rfl) (fun a w hf => by obtain ⟨h1, -⟩ := hf; exact h1.elim fun _ h => h.elim fun _ h => h) ?_, OpOk.quietG rfl (by kernel_rfl) (fun a w hf => by obtain ⟨h1, -⟩ := hf; exact h1.elim fun _ h => h.elim fun _ h => h) ?_, OpOk.quietG rfl (by kernel_rfl) (fun a w hf => by obtain ⟨h1, -⟩ := hf; exact h1.elim fun _ h => h.elim fun _ h => h) ?_, OpOk.quietG rfl (by kernel_rfl) (fun a w hf => by obtain ⟨h1, -⟩ := hf; exact h1.elim fun _ h => h.elim fun _ h => h) ?_, OpOk.quietG rfl (by kernel_rfl) (fun a w hf => by obtain ⟨h1, -⟩ := hf; exact h1.elim fun _ h => h.elim fun _ h => h) ?_, OpOk.quietG rfl (by kernel_rfl) (fun a w hf => by obtain ⟨h1, -⟩ := hf; exact h1.elim fun _ h => h.elim fun _ h => h) ?_, OpOk.quietG rfl (by kernel_rfl) (fun a w hf => by obtain ⟨h1, -⟩ := hf; exact h1.elim fun _ h => h.elim fun _ h => h) ?_, OpOk.quietG rfl (by kernel_rfl) (fun a w hf => by obtain ⟨h1, -⟩ := hf; exact h1.elim fun _ h => h.elim fun _ h => h) ?_, OpOk.quietG rfl (by kernel_rfl) (fun a w hf => by obtain ⟨h1, -⟩ := hf; exact h1.elim fun _ h => h.elim fun _ h => h) ?_, OpOk.quietG rfl (by kernel_rfl) (fun a w hf => by obtain ⟨h1, -⟩ := hf; exact h1.elim fun _ h => h.elim fun _ h => h) ?_, OpOk.quietG rfl (by kernel_rfl) (fun a w hf => by obtain ⟨h1, -⟩ := hf; exact h1.elim fun _ h => h.elim fun _ h => h) ?_, OpOk.quietG rfl (by kernel_rfl) (fun a w hf => by obtain ⟨h1, -⟩ := hf; exact h1.elim fun _ h => h.elim fun _ h => h) ?_, OpOk.quietG rfl (by kernel_rfl) (fun a w hf => by obtain ⟨h1, -⟩ := hf; exact h1.elim fun _ h => h.elim fun _ h => h) ?_, OpOk.quietG rfl (by kernel_rfl) (fun a w hf => by obtain ⟨h1, -⟩ := hf; exact h1.elim fun _ h => h.elim fun _ h => h) ?_, OpOk.callG rfl (by kernel_rfl) (fun a w hf => by obtain ⟨h1, -⟩ := hf; exact h1.elim fun _ h => h.elim fun _ h => h) ?_, OpOk.quietG rfl (by kernel_rfl) (fun a w hf => by obtain ⟨h1, -⟩ := hf; exact h1.elim fun _ h => h.elim fun _ h => h) ?_, OpOk.quiet rfl ?_, OpOk.quiet rfl ?_, trivial⟩ ?_
            · intro a u _ hf
              simp [facts, Need.fact, Act.eval] at hf
              go_simp
            · intro a u _ hf
              simp [facts, Need.fact, Ent.val, Act.eval] at hf
              go_simp
            · intro a u _ hf
              simp [facts, Need.fact, Ent.val, Act.eval] at hf
              go_simp
            · intro a u _ hf
              simp [facts, Need.fact, Ent.val, Act.eval] at hf
              go_simp
            · intro a u _ hf
              simp [facts, Need.fact, Ent.val, Act.eval] at hf
              go_simp
            · intro a u hG hf
              simp [facts, Need.fact, Ent.val, Act.eval] at hf
              have y0 := (hG.cell (p := ⟨bl, ol + j * 2, none⟩) ltlr (by simp)).trans g0
              have y1 := (hG.cell (p := ⟨bl, ol + j * 2 + 1, none⟩) ltlr (by simp)).trans g1
              go_simp
            · intro a u _ hf
              simp [facts, Need.fact, Ent.val, Act.eval] at hf
              go_simp
            · intro a u _ hf
              simp [facts, Need.fact, Ent.val, Act.eval] at hf
              go_simp
            · intro a u _ hf
              simp [facts, Need.fact, Ent.val, Act.eval] at hf
              go_simp
            · intro a u _ hf
              simp [facts, Need.fact, Ent.val, Act.eval] at hf
              go_simp
            · intro a u hG hf
              simp [facts, Need.fact, Ent.val, Act.eval] at hf
              have y0 := (hG.cell (p := ⟨bl, ol + j1 * 2, none⟩) ltlr (by simp)).trans g2
              have y1 := (hG.cell (p := ⟨bl, ol + j1 * 2 + 1, none⟩) ltlr (by simp)).trans g3
              go_simp
            · intro a u _ hf
              simp [facts, Need.fact, Ent.val, Act.eval] at hf
              go_simp
            · intro a u _ hf
              simp [facts, Need.fact, Ent.val, Act.eval] at hf
              go_simp
            · intro a u _ hf
              simp [facts, Need.fact, Ent.val, Act.eval] at hf
              go_simp
            · intro a u hG hf
              simp [facts, Need.fact, Ent.val, Act.eval] at hf
              have y0 := (hG.cell (p := ⟨bm, om + k * 2, none⟩) ltmr (by simp)).trans h0
              have y1 := (hG.cell (p := ⟨bm, om + k * 2 + 1, none⟩) ltmr (by simp)).trans h1
              go_simp
            · intro a u _ hf
              simp [facts, Need.fact, Ent.val, Act.eval] at hf
              go_simp
            · intro a u _ hf
              simp [facts, Need.fact, Ent.val, Act.eval] at hf
              go_simp
            · intro a u _ hf
              simp [facts, Need.fact, Ent.val, Act.eval] at hf
              go_simp
            · intro a u _ hf
              simp [facts, Need.fact, Ent.val, Act.eval] at hf
              go_simp
            · intro a u hG hf
              simp [facts, Need.fact, Ent.val, Act.eval] at hf
              have y0 := (hG.cell (p := ⟨bm, om + k1 * 2, none⟩) ltmr (by simp)).trans h2
              have y1 := (hG.cell (p := ⟨bm, om + k1 * 2 + 1, none⟩) ltmr (by simp)).trans h3
              go_simp
            · intro a u hG hf
              simp [facts, Need.fact, Ent.val, Act.eval] at hf
              refine ⟨_, _, by go_simp, (hsk u).mono ?_⟩
              rintro e w' ⟨rfl, hb⟩
              exact ⟨_, rfl, hb, rfl⟩
            · intro a u _ hf
              simp [facts, Need.fact, Ent.val, Act.eval] at hf
              go_simp
            · intro a u _ hf
              simp [facts, Need.fact, Ent.val, Act.eval] at hf
              go_simp
            · intro a u _ hf
              simp [facts, Need.fact, Ent.val, Act.eval] at hf
              go_simp
            intro u lw hw wc hKp hE hI hD
            simp only [allE, Ent.val] at hE
            obtain ⟨u0, u1, u2, u3, u4, u5, u6, u7, u8, u9, u10, u11, u12, u13, u14, u15, u16, u17, u18, u19, u20, u21, u22, u23, -⟩ := hE
            simp only [Nat.reduceAdd] at u0 u1 u2 u3 u4 u5 u6 u7 u8 u9 u10 u11 u12 u13 u14 u15 u16 u17 u18 u19 u20 u21 u22 u23
            simp only [allPut, Act.put, Nat.reduceAdd, u0, u1, u2, u3, u4, u5, u6, u7, u8, u9, u10, u11, u12, u13, u14, u15, u16, u17, u18, u19, u20, u21, u22, u23]
            try simp only [List.setIfInBounds_toArray, List.set_cons_zero, List.set_cons_succ]
            clear hI hD u0 u1 u2 u3 u4 u5 u6 u7 u8 u9 u10 u11 u12 u13 u14 u15 u16 u17 u18 u19 u20 u21 u22 u23 hsk g0 g1 g2 g3 h0 h1 h2 h3
            have B7 := hKp.belowX B6 B6.size (by simp)
            clear hKp B6 ltlr ltmr hfd
            rw [Bool.false_or] at hstep
            go_wp2
            go_roundw
            case rel => exact ⟨k + 1, hlk, by subst hk1; first | rfl | go_num, by rw [hstep], hnk2, B7⟩
            case measure => simp only [intOf]; omega

        · obtain rfl : k = n2 := by omega
          have hgk' : ¬ (k1 : Int) < (m.length : Int) := by omega
          have ej : at' l j1 = nxp l j := by unfold nxp; rw [if_neg (by omega), hj1]
          obtain ⟨g0, g1⟩ := hcl j (by omega)
          obtain ⟨g2, g3⟩ := hcl j1 (by omega)
          rw [ej] at g2 g3
          have g0 := (hB.cell (p := ⟨bl, ol + j * 2, none⟩) ltl).trans g0
          have g1 := (hB.cell (p := ⟨bl, ol + j * 2 + 1, none⟩) ltl).trans g1
          have g2 := (hB.cell (p := ⟨bl, ol + j1 * 2, none⟩) ltl).trans g2
          have g3 := (hB.cell (p := ⟨bl, ol + j1 * 2 + 1, none⟩) ltl).trans g3
          have q0 := (hB.cell (p := ⟨w.heap.size, 0, none⟩) ltp).trans pc0
          have q1 := (hB.cell (p := ⟨w.heap.size, 1, none⟩) ltp).trans pc1
          have ltlr := Nat.lt_of_lt_of_le ltl hB.size
          have ltpr := Nat.lt_of_lt_of_le ltp hB.size
          obtain ⟨r1, r2, z0, z1, z2, z3, hsk⟩ := sask_p hbl hbp j
          have hno2 : ∀ i k', i < j + 1 → k' < k → oo l m i k' = false := fun i k' hi hk' => by
            by_cases e : i = j
            · subst e; exact hnk k' hk'
            · exact hno i k' (by omega) hk'
          have hstepS : anyN (ron l p) (j + 1) = (S || ron l p j) := by rw [anyN, hS]
          have hstepM : anyN (fun i => anyN (qq l m i) k) (j + 1) = N := by rw [anyN, hM, hN]
          have hfd := saF0
          obtain ⟨Q, hQ⟩ : ∃ Q, ron l p j = Q := ⟨_, rfl⟩
          rw [hQ] at hsk hstepS
          cases S with
          | true =>
            go_wp2
            refine wp_region_K [] [.val (.bool true), .val (.bool true), .val undef, .val undef, .val undef, .val undef, .val undef, .val undef, .val undef, .val undef, .val undef, .val undef, .val undef, .val undef, .val undef, .val (.bool true), .val (.bool true)]
              [[.ini 11], [.frm 0 103], [.frm 1 104], [.frm 1 104], [.frm 1 104], [.frm 1 104], [.frm 1 104], [.frm 1 104], [.frm 1 104], [.frm 1 104], [.frm 1 104], [.frm 1 104], [.frm 1 104], [.frm 1 104], [.frm 1 104], [.frm 1 104], [.frm 15 118]]
              mixed (by kernel_rfl) (by kernel_rfl) (allPre_of ⟨trivial, trivial, trivial, trivial, trivial, trivial, trivial, trivial, trivial, trivial, trivial, trivial, trivial, trivial, trivial, trivial, trivial, trivial⟩)
              ⟨OpOk.quiet rfl ?_, OpOk.quiet rfl ?_, OpOk.skipG rfl (by kernel_rfl) (fun a w hf => by obtain ⟨h1, -⟩ := hf; exact h1.elim fun _ h => h.elim fun _ h => h), OpOk.skipG rfl (by kernel_rfl) (fun a w hf => by obtain ⟨h1, -⟩ := hf; exact h1.elim fun _ h => h.elim fun _ h => h), OpOk.skipG rfl (by kernel_rfl) (fun a w hf => by obtain ⟨h1, -⟩ := hf; exact h1.elim fun _ h => h.elim fun _ h => h), OpOk.skipG rfl (by kernel_rfl) (fun a w hf => by obtain ⟨h1, -⟩ := hf; exact h1.elim fun _ h => h.elim fun _ h => h), OpOk.skipG rfl (by kernel_rfl) (fun a w hf => by obtain ⟨h1, -⟩ := hf; exact h1.elim fun _ h => h.elim fun _ h => h), OpOk.skipG rfl (by kernel_rfl) (fun a w hf => by obtain ⟨h1, -⟩ := hf; exact h1.elim fun _ h => h.elim fun _ h => h), OpOk.skipG rfl (by kernel_rfl) (fun a w hf => by obtain ⟨h1, -⟩ := hf; exact h1.elim fun _ h => h.elim fun _ h => h), OpOk.skipG rfl (by kernel_rfl) (fun a w hf => by obtain ⟨h1, -⟩ := hf; exact h1.elim fun _ h => h.elim fun _ h => h), OpOk.skipG rfl (by kernel_rfl) (fun a w hf => by obtain ⟨h1, -⟩ := hf; exact h1.elim fun _ h => h.elim fun _ h => h), OpOk.skipG rfl (by kernel_rfl) (fun a w hf => by obtain ⟨h1, -⟩ := hf; exact h1.elim fun _ h => h.elim fun _ h => h), OpOk.skipG rfl (by kernel_rfl) (fun a w hf => by obtain ⟨h1, -⟩ := hf; exact h1.elim fun _ h => h.elim fun _ h => h), OpOk.skipG rfl (by kernel_rfl) (fun a w hf => by obtain ⟨h1, -⟩ := hf; exact h1.elim fun _ h => h.elim fun _ h => h), OpOk.skipG rfl (by kernel_rfl) (fun a w hf => by obtain ⟨h1, -⟩ := hf; exact h1.elim fun _ h => h.elim fun _ h => h), OpOk.quiet rfl ?_, OpOk.quiet rfl ?_, trivial⟩ ?_
            · intro a u _ hf
              simp [facts, Need.fact, Act.eval] at hf
              go_simp
            · intro a u _ hf
              simp [facts, Need.fact, Ent.val, Act.eval] at hf
              go_simp
            · intro a u _ hf
              simp [facts, Need.fact, Ent.val, Act.eval] at hf
              go_simp
            · intro a u _ hf
              simp [facts, Need.fact, Ent.val, Act.eval] at hf
              go_simp
            intro u lw hw wc hKp hE hI hD
            simp only [allE, Ent.val] at hE
            obtain ⟨u0, u1, u2, u3, u4, u5, u6, u7, u8, u9, u10, u11, u12, u13, u14, u15, u16, -⟩ := hE
            simp only [Nat.reduceAdd] at u0 u1 u2 u3 u4 u5 u6 u7 u8 u9 u10 u11 u12 u13 u14 u15 u16
            simp only [allPut, Act.put, Nat.reduceAdd, u0, u1, u2, u3, u4, u5, u6, u7, u8, u9, u10, u11, u12, u13, u14, u15, u16]
            try simp only [List.setIfInBounds_toArray, List.set_cons_zero, List.set_cons_succ]
            clear hI hD u0 u1 u2 u3 u4 u5 u6 u7 u8 u9 u10 u11 u12 u13 u14 u15 u16 hsk g0 g1 g2 g3 q0 q1
            have B7 := hKp.belowX hB hB.size (by simp)
            clear hKp hB ltlr ltpr hfd
            rw [Bool.true_or] at hstepS
            go_wp2
            go_roundw
            case rel => exact ⟨j + 1, hlt, by subst hj1; first | rfl | go_num, by rw [hstepS], by rw [hstepM], hno2, B7⟩
            case measure => simp only [intOf]; omega

          | false =>
            go_wp2
            refine wp_region_K [] [.val (.bool false), .val (.bool false), .val (.slice (some ⟨bl, ol, none⟩) l.length c0), .val (.int .i64 j), .val (.pointer (some ⟨bl, ol + j * 2, none⟩)), .val (.agg #[.int .i64 (at' l j).1, .int .i64 (at' l j).2]), .val (.slice (some ⟨bl, ol, none⟩) l.length c0), .val (.int .i64 j), .val (.int .i64 j1), .val (.pointer (some ⟨bl, ol + j1 * 2, none⟩)), .val (.agg #[.int .i64 (nxp l j).1, .int .i64 (nxp l j).2]), .val (.agg #[.int .i64 (p).1, .int .i64 (p).2]), .val (.agg #[.int .i64 (p).1, .int .i64 (p).2]), .of (fun v => ∃ x : Bool, v = .agg #[.bool Q, .bool r1, .bool r2, .bool x, .int .i64 z0, .int .i64 z1, .int .i64 z2, .int .i64 z3]), .val (.bool Q), .val (.bool Q), .val (.bool Q)]
              [[.ini 11], [.frm 0 103], [.frm 1 104, .ini 0], [.frm 1 104, .ini 13], [.frm 1 104, .frm 2 105, .frm 3 106], [.frm 1 104, .frm 4 107], [.frm 1 104, .ini 0], [.frm 1 104, .ini 13], [.frm 1 104, .frm 7 110], [.frm 1 104, .frm 6 109, .frm 8 111], [.frm 1 104, .frm 9 112], [.frm 1 104, .ini 6], [.frm 1 104, .ini 6], [.frm 1 104, .frm 5 108, .frm 10 113, .frm 11 114, .frm 12 115], [.frm 1 104, .frm 13 116], [.frm 1 104, .frm 14 117], [.frm 15 118]]
              mixed (by kernel_rfl) (by kernel_rfl) (allPre_of ⟨trivial, trivial, trivial, trivial, trivial, trivial, trivial, trivial, trivial, trivial, trivial, trivial, trivial, trivial, trivial, trivial, trivial, trivial⟩)
              ⟨OpOk.quiet rfl ?_, OpOk.quiet rfl ?_, OpOk.quietG rfl (by kernel_rfl) (fun a w hf => by obtain ⟨h1, -⟩ := hf; exact h1.elim fun _ h => h.elim fun _ h => h) ?_, OpOk.quietG rfl (by kernel_rfl) (fun a w hf => by obtain ⟨h1, -⟩ := hf; exact h1.elim fun _ h => h.elim fun _ h => h) ?_, OpOk.quietG rfl (by kernel_rfl) (fun a w hf => by obtain ⟨h1, -⟩ := hf; exact h1.elim fun _ h => h.elim fun _ h => h) ?_, OpOk.quietG rfl (by kernel_rfl) (fun a w hf => by obtain ⟨h1, -⟩ := hf; exact h1.elim fun _ h => h.elim fun _ h => h) ?_, OpOk.quietG rfl (by kernel_rfl) (fun a w hf => by obtain ⟨h1, -⟩ := hf; exact h1.elim fun _ h => h.elim fun _ h => h) ?_, OpOk.quietG rfl (by kernel_rfl) (fun a w hf => by obtain ⟨h1, -⟩ := hf; exact h1.elim fun _ h => h.elim fun _ h => h) ?_, OpOk.quietG rfl (by kernel_rfl) (fun a w hf => by obtain ⟨h1, -⟩ := hf; exact h1.elim fun _ h => h.elim fun _ h => h) ?_, OpOk.quietG rfl (by kernel_rfl) (fun a w hf => by obtain ⟨h1, -⟩ := hf; exact h1.elim fun _ h => h.elim fun _ h => h) ?_, OpOk.quietG rfl (by kernel_rfl) (fun a w hf => by obtain ⟨h1, -⟩ := hf; exact h1.elim fun _ h => h.elim fun _ h => h) ?_, OpOk.quietG rfl (by kernel_rfl) (fun a w hf => by obtain ⟨h1, -⟩ := hf; exact h1.elim fun _ h => h.elim fun _ h => h) ?_, OpOk.quietG rfl (by kernel_rfl) (fun a w hf => by obtain ⟨h1, -⟩ := hf; exact h1.elim fun _ h => h.elim fun _ h => h) ?_, OpOk.callG rfl (by kernel_rfl) (fun a w hf => by obtain ⟨h1, -⟩ := hf; exact h1.elim fun _ h => h.elim fun _ h => h) ?_, OpOk.quietG rfl (by kernel_rfl) (fun a w hf => by obtain ⟨h1, -⟩ := hf; exact h1.elim fun _ h => h.elim fun _ h => h) ?_, OpOk.quiet rfl ?_, OpOk.quiet rfl ?_, trivial⟩ ?_
            · intro a u _ hf
              simp [facts, Need.fact, Act.eval] at hf
              go_simp
            · intro a u _ hf
              simp [facts, Need.fact, Ent.val, Act.eval] at hf
              go_simp
            · intro a u _ hf
              simp [facts, Need.fact, Ent.val, Act.eval] at hf
              go_simp
            · intro a u _ hf
              simp [facts, Need.fact, Ent.val, Act.eval] at hf
              go_simp
            · intro a u _ hf
              simp [facts, Need.fact, Ent.val, Act.eval] at hf
              go_simp
            · intro a u hG hf
              simp [facts, Need.fact, Ent.val, Act.eval] at hf
              have y0 := (hG.cell (p := ⟨bl, ol + j * 2, none⟩) ltlr (by simp)).trans g0
              have y1 := (hG.cell (p := ⟨bl, ol + j * 2 + 1, none⟩) ltlr (by simp)).trans g1
              go_simp
            · intro a u _ hf
              simp [facts, Need.fact, Ent.val, Act.eval] at hf
              go_simp
            · intro a u _ hf
              simp [facts, Need.fact, Ent.val, Act.eval] at hf
              go_simp
            · intro a u _ hf
              simp [facts, Need.fact, Ent.val, Act.eval] at hf
              go_simp
            · intro a u _ hf
              simp [facts, Need.fact, Ent.val, Act.eval] at hf
              go_simp
            · intro a u hG hf
              simp [facts, Need.fact, Ent.val, Act.eval] at hf
              have y0 := (hG.cell (p := ⟨bl, ol + j1 * 2, none⟩) ltlr (by simp)).trans g2
              have y1 := (hG.cell (p := ⟨bl, ol + j1 * 2 + 1, none⟩) ltlr (by simp)).trans g3
              go_simp
            · intro a u hG hf
              simp [facts, Need.fact, Ent.val, Act.eval] at hf
              have y0 := (hG.cell (p := ⟨w.heap.size, 0, none⟩) ltpr (by simp)).trans q0
              have y1 := (hG.cell (p := ⟨w.heap.size, 1, none⟩) ltpr (by simp)).trans q1
              go_simp
            · intro a u hG hf
              simp [facts, Need.fact, Ent.val, Act.eval] at hf
              have y0 := (hG.cell (p := ⟨w.heap.size, 0, none⟩) ltpr (by simp)).trans q0
              have y1 := (hG.cell (p := ⟨w.heap.size, 1, none⟩) ltpr (by simp)).trans q1
              go_simp
            · intro a u hG hf
              simp [facts, Need.fact, Ent.val, Act.eval] at hf
              refine ⟨_, _, by go_simp, (hsk u).mono ?_⟩
              rintro e w' ⟨x, rfl, hb⟩
              exact ⟨_, rfl, hb, x, rfl⟩
            · intro a u _ hf
              obtain ⟨-, ⟨_, _, x, hx⟩, -⟩ := hf
              have e1 : a.eval (.tmp 116) = .agg #[.bool Q, .bool r1, .bool r2, .bool x, .int .i64 z0, .int .i64 z1, .int .i64 z2, .int .i64 z3] := hx
              clear hx
              simp [Act.eval] at e1
              go_simp
            · intro a u _ hf
              simp [facts, Need.fact, Ent.val, Act.eval] at hf
              go_simp
            · intro a u _ hf
              simp [facts, Need.fact, Ent.val, Act.eval] at hf
              go_simp
            intro u lw hw wc hKp hE hI hD
            simp only [allE, Ent.val] at hE
            obtain ⟨u0, u1, u2, u3, u4, u5, u6, u7, u8, u9, u10, u11, u12, -, u14, u15, u16, -⟩ := hE
            simp only [Nat.reduceAdd] at u0 u1 u2 u3 u4 u5 u6 u7 u8 u9 u10 u11 u12 u14 u15 u16
            simp only [allPut, Act.put, Nat.reduceAdd, u0, u1, u2, u3, u4, u5, u6, u7, u8, u9, u10, u11, u12, u14, u15, u16]
            try simp only [List.setIfInBounds_toArray, List.set_cons_zero, List.set_cons_succ]
            clear hI hD u0 u1 u2 u3 u4 u5 u6 u7 u8 u9 u10 u11 u12 u14 u15 u16 hsk g0 g1 g2 g3 q0 q1
            generalize u 13 = y13 at *
            have B7 := hKp.belowX hB hB.size (by simp)
            clear hKp hB ltlr ltpr hfd
            rw [Bool.false_or] at hstepS
            go_wp2
            go_roundw
            case rel => exact ⟨j + 1, hlt, by subst hj1; first | rfl | go_num, by rw [hstepS], by rw [hstepM], hno2, B7⟩
            case measure => simp only [intOf]; omega

    · obtain rfl : j = n1 := by omega
      have hge' : ¬ (j1 : Int) < (l.length : Int) := by omega
      have st6 := st5.ext hB
      have s6 := s5.below hB
      have m7 := m6.below hB
      have x0 := st6.cell 0 rfl 0
      have x1 := st6.cell 0 rfl 1
      have xlt := st6.lt 0 rfl
      simp only [List.getElem?_toArray, List.getElem?_cons_zero, List.getElem?_cons_succ] at x0 x1
      obtain ⟨ki, hki, hki2⟩ : ∃ ki : Nat, KD % 3 = ki ∧ ki ≤ 2 := ⟨KD % 3, rfl, by omega⟩
      have hrem : (KD : Int).tmod 3 = (ki : Int) := by rw [Int.tmod_eq_emod_of_nonneg (by omega)]; omega
      have wk1 : IntKind.i64.wrap (ki : Int) = (ki : Int) := by
        unfold IntKind.wrap
        simp [IntKind.bits, IntKind.signed]
        omega
      have el : l.length - 1 = j := by omega
      have em : m.length - 1 = n2 := by omega
      have ask := askLn_c ki hki2 l (by omega) hll.1 (fun q hq => bn1_bnd (hbl q hq)) p (bn1_bnd hbp) (rin l p) (ron l p) (fun k _ u => ray_q hbl hbp k u) (fun k _ hno => ron_miss hno)
      have isl := isLn_c ki hki2 l m (by omega) hll.1 (fun q hq => bn1_bnd (hbl q hq)) (by omega) hml.1 (fun q hq => bn1_bnd (hbm q hq)) (qq l m) (fun i k hi hk u => sis_q hbl hbm (hno i k (by omega) (by omega)) u) (fun i k hi hk u => sis_q2 hbl hbm (hno i k (by omega) (by omega)) u) (fun i k hi hk h => qq_miss (hno i k (by omega) (by omega)) h)
      rw [el] at ask isl
      rw [em] at isl
      rw [hS] at ask
      simp only [hM] at isl
      have st7 := st6.push (b := wr.heap.size) rfl #[.int .i64 p.1, .int .i64 p.2] 29
      have hb67 := (Below.refl wr.heap.size wr).alloc (Nat.le_refl _) (.cells #[.int .i64 p.1, .int .i64 p.2] 29)
      have s7 := s6.below hb67
      have m8 := m7.below hb67
      have sp7 := SlP.oneB st7 0 rfl
      have ask1 := ask (.slice (some ⟨bl, ol, none⟩) l.length c0) (.slice none 0 0) (.slice (some ⟨wr.heap.size, 0, none⟩) 1 1) (.slice none 0 0) ⟨_, _, _, rfl⟩ ⟨_, _, _, rfl⟩ _ s7 sp7
      clear ask hb67 sp7 hcl hcm hcg hch hno hbl hbm hbp hki hM hS hB s6 m7 s5 m6 hn1 hn2 el em hll hml hj1
      go_wp2_with (go_at_call 11; refine JR.StopM.out ?_)
      refine ⟨?_⟩
      refine ask1.mono ?_
      rintro e w8 ⟨rfl, hb8⟩
      have st8 := st7.ext hb8
      have s8 := s7.below hb8
      have m9 := m8.below hb8
      have isl1 := isl (.slice (some ⟨bl, ol, none⟩) l.length c0) (.slice (some ⟨bm, om, none⟩) m.length c1) _ s8 m9
      clear ask1 hb8 st7 s7 m8 x0 x1 isl st6 st5
      go_wp2_with (go_at_call 18; refine JR.StopM.out ?_)
      refine ⟨?_⟩
      refine isl1.mono ?_
      rintro e w9 ⟨rfl, hb9⟩
      have st9 := st8.ext hb9
      clear isl1 hb9 st8 s8 m9
      cases S <;> cases M <;>
      · go_wp2_with (go_at_call 10; refine JR.StopM.out ?_)
        refine ⟨?_⟩
        refine (awake_c _).mono ?_
        rintro e wA ⟨rfl, hbA⟩
        have stA := st9.ext hbA
        go_wp2
        go_ret
        exact ⟨rfl, stA.hb⟩
end Go.Proofs.YtdlcckkphjpeoaaGreat
