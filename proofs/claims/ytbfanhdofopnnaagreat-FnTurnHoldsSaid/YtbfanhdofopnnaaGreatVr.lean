import Derived.Test.YtbfanhdofopnnaaGreatVn
import Derived.Test.YtbfanhdofopnnaaGreatRa
import Derived.Test.YtbfanhdofopnnaaGreatPr
import Derived.Test.YtbfanhdofopnnaaGreatBlk
set_option linter.unusedSimpArgs false
set_option linter.unusedVariables false
namespace PF
open Go Go.RowKit
theorem max2_int (k k' : IntKind) (x y : Int) : Builtin.max2 (.int k x) (.int k' y) = pure (.int k (max x y)) := by
  simp only [Builtin.max2, gt_iff_lt]; rw [show (if x < y then y else x) = max x y from by split <;> omega]
theorem min2_int (k k' : IntKind) (x y : Int) : Builtin.min2 (.int k x) (.int k' y) = pure (.int k (min x y)) := by
  simp only [Builtin.min2]; rw [show (if y < x then y else x) = min x y from by split <;> omega]
theorem max_two (ats : Array TypeId) (ty : TypeId) (a b : Value) : Builtin.max_ ats ty #[a, b] = (Builtin.max2 a b >>= fun s => pure s) := by simp only [Builtin.max_, List.foldlM_cons, List.foldlM_nil]
theorem min_two (ats : Array TypeId) (ty : TypeId) (a b : Value) : Builtin.min_ ats ty #[a, b] = (Builtin.min2 a b >>= fun s => pure s) := by simp only [Builtin.min_, List.foldlM_cons, List.foldlM_nil]
/-- the least rectangle around points, begun with a rectangle -/
def bxs (l : List (Int × Int)) (b : Int × Int × Int × Int) : Int × Int × Int × Int :=
  l.foldl (fun b p => (min b.1 p.1, min b.2.1 p.2, max b.2.2.1 p.1, max b.2.2.2 p.2)) b
theorem bxs_snoc (l : List (Int × Int)) (b : Int × Int × Int × Int) (k : Nat) (p : Int × Int) (h : l[k]? = some p) :
    bxs (l.take (k + 1)) b = (min (bxs (l.take k) b).1 p.1, min (bxs (l.take k) b).2.1 p.2, max (bxs (l.take k) b).2.2.1 p.1, max (bxs (l.take k) b).2.2.2 p.2) := by
  rw [List.take_add_one, h]
  simp [bxs, List.foldl_append]
end PF
namespace Go.Proofs.YtbfanhdofopnnaaGreat
open Go.RowKit PF JR
attribute [local go_sem] PF.max2_int PF.min2_int PF.max_two PF.min_two

set_option maxHeartbeats 1000000 in
theorem vrect_c (l : List (Int × Int)) (p0 : Int × Int) (h0 : l[0]? = some p0) (hl : l.length ≤ 2147483647) (v : Value) (w : World) (hv : SlP w v l) :
    Calls Tryz.prog 66 #[v] w fun e w' => e = .returned (.agg #[.int .i64 (bxs l (p0.1, p0.2, p0.1, p0.2)).1, .int .i64 (bxs l (p0.1, p0.2, p0.1, p0.2)).2.1, .int .i64 (bxs l (p0.1, p0.2, p0.1, p0.2)).2.2.1, .int .i64 (bxs l (p0.1, p0.2, p0.1, p0.2)).2.2.2]) ∧ Below w.heap.size w w' := by
  obtain ⟨A, c, rfl, hk⟩ := hv
  obtain ⟨b, off, rfl, h1, h2⟩ := hk 0 _ h0
  have hk' : ∀ k p, l[k]? = some p → w.cell? ⟨b, off + k * 2, none⟩ = some (.int .i64 p.1) ∧ w.cell? ⟨b, off + k * 2 + 1, none⟩ = some (.int .i64 p.2) := by
    intro k p hp
    obtain ⟨b', off', e, g1, g2⟩ := hk k p hp
    cases e
    exact ⟨g1, g2⟩
  clear hk
  have hlen : 0 < l.length := by
    rcases Nat.eq_zero_or_pos l.length with h | h
    · rw [List.getElem?_eq_none (by omega)] at h0; cases h0
    · exact h
  have hbl := World.block_lt_of_cell? w _ h1
  simp at hbl h1 h2
  generalize hQ : bxs l (p0.1, p0.2, p0.1, p0.2) = Q
  obtain ⟨q1, q2, q3, q4⟩ := Q
  go_enter Tryz.func66, Tryz.ntmps66
  have hne : (((l.length : Nat) : Int) == 0) = false := beq_eq_false_iff_ne.2 (by omega)
  have hl0 : (0 : Int) < (l.length : Int) := by omega
  go_wp2
  have z1 : (w.alloc (.cells #[.int .i64 0, .int .i64 0, .int .i64 0, .int .i64 0] 118)).cell? ⟨b, off, none⟩ = _ := (World.cell?_of_block (Below.heap_alloc w _ b (by simpa using hbl))).trans h1
  have z2 : (w.alloc (.cells #[.int .i64 0, .int .i64 0, .int .i64 0, .int .i64 0] 118)).cell? ⟨b, off + 1, none⟩ = _ := (World.cell?_of_block (Below.heap_alloc w _ b (by simpa using hbl))).trans h2
  refine wp_region_K [] [.val (.slice (some ⟨b, off, none⟩) l.length c),
      .val (.pointer (some ⟨b, off, none⟩)),
      .val (.agg #[.int .i64 p0.1, .int .i64 p0.2]),
      .val (.slice (some ⟨b, off, none⟩) l.length c),
      .val (.pointer (some ⟨b, off, none⟩)),
      .val (.agg #[.int .i64 p0.1, .int .i64 p0.2]),
      .val (.agg #[.int .i64 p0.1, .int .i64 p0.2, .int .i64 p0.1, .int .i64 p0.2]),
      .made 118 4,
      .filled 3 #[.int .i64 p0.1, .int .i64 p0.2, .int .i64 p0.1, .int .i64 p0.2] 118]
    [[.ini 0], [.frm 0 10], [.frm 1 11], [.ini 0], [.frm 3 13], [.frm 4 14], [.frm 2 12, .frm 5 15], [], [.frm 7 3, .frm 6 16]]
    mixed (by kernel_rfl) (by kernel_rfl) (allPre_of ⟨trivial, trivial, trivial, trivial, trivial, trivial, trivial, trivial, trivial, trivial⟩)
    ⟨OpOk.quiet rfl ?_,
      OpOk.quiet rfl ?_,
      OpOk.quiet rfl ?_,
      OpOk.quiet rfl ?_,
      OpOk.quiet rfl ?_,
      OpOk.quiet rfl ?_,
      OpOk.quiet rfl ?_,
      OpOk.made (cs := #[.int .i64 0, .int .i64 0, .int .i64 0, .int .i64 0]) rfl rfl ?_,
      OpOk.fillRow (k := 7) rfl rfl (by kernel_rfl) rfl (oldLt_of ⟨(fun _ h => (nomatch h)), (fun _ h => (nomatch h)), (fun _ h => (nomatch h)), (fun _ h => (nomatch h)), (fun _ h => (nomatch h)), (fun _ h => (nomatch h)), (fun _ h => (nomatch h)), (fun _ h => (nomatch h)), (fun _ h => (nomatch h)), trivial⟩) (by kernel_rfl) (by simp [Value.oneCell']) (fun a w hf => ⟨hf.1, hf.2.1.elim fun _ h => h.elim fun _ h => h⟩) (fun _ _ _ h hb => Keep.setRow h (.inl hb)), trivial⟩ ?_
  · intro a u _ hf
    simp [facts, Need.fact, Act.eval] at hf
    go_simp
  · intro a u _ hf
    simp [facts, Need.fact, Ent.val, Act.eval] at hf
    go_simp
  · intro a u hG hf
    simp [facts, Need.fact, Ent.val, Act.eval] at hf
    have hc := True.intro
    have y1 := (hG.cell (p := ⟨b, off, none⟩) (by simp; omega) (by simp)).trans z1
    have y2 := (hG.cell (p := ⟨b, off + 1, none⟩) (by simp; omega) (by simp)).trans z2
    go_simp
  · intro a u _ hf
    simp [facts, Need.fact, Act.eval] at hf
    go_simp
  · intro a u _ hf
    simp [facts, Need.fact, Ent.val, Act.eval] at hf
    go_simp
  · intro a u hG hf
    simp [facts, Need.fact, Ent.val, Act.eval] at hf
    have hc := True.intro
    have y1 := (hG.cell (p := ⟨b, off, none⟩) (by simp; omega) (by simp)).trans z1
    have y2 := (hG.cell (p := ⟨b, off + 1, none⟩) (by simp; omega) (by simp)).trans z2
    go_simp
  · intro a u _ hf
    simp [facts, Need.fact, Ent.val, Act.eval] at hf
    go_simp
  · intro a u _ _
    go_simp
  intro u lw hw wc hK hE hI hD
  simp [allE, allPut, Act.put, Act.eval, Ent.filledP, Ent.made, Ent.val] at hE
  obtain ⟨u0, u1, u2, u3, u4, u5, u6, ⟨b7, u7, l7, h7, -⟩, ⟨c8, v8, g8⟩⟩ := hE
  obtain rfl : b7 = c8 := by rw [u7] at v8; simpa using v8
  simp only [allPut, Act.put, u0, u1, u2, u3, u4, u5, u6, u7]
  clear u0 u1 u2 u3 u4 u5 u6 u7 v8
  have i7 := hI 7 (by simp)
  simp at i7
  have hne7 : b7 ≠ w.heap.size := by omega
  have hge7 : w.heap.size ≤ b7 := by omega
  have B0 : Blk w wc [(b7, #[.int .i64 p0.1, .int .i64 p0.2, .int .i64 p0.1, .int .i64 p0.2], 118), (w.heap.size, #[.int .i64 0, .int .i64 0, .int .i64 0, .int .i64 0], 118)] :=
    (((Blk.nil w).push rfl _ _).keep hK (fun i x _ => by simp) (fun x hx => by simp at hx)).add g8
  clear hK hI hD g8 z1 z2 h1 h2 l7 h7 i7 hne hl0
  go_wp2
  go_loopw [19] (fun i wr => ∃ k : Nat, k ≤ l.length ∧ i = .int .i64 k ∧ Blk w wr [(b7, #[.int .i64 (bxs (l.take k) (p0.1, p0.2, p0.1, p0.2)).1, .int .i64 (bxs (l.take k) (p0.1, p0.2, p0.1, p0.2)).2.1, .int .i64 (bxs (l.take k) (p0.1, p0.2, p0.1, p0.2)).2.2.1, .int .i64 (bxs (l.take k) (p0.1, p0.2, p0.1, p0.2)).2.2.2], 118), (w.heap.size, #[.int .i64 0, .int .i64 0, .int .i64 0, .int .i64 0], 118)]) (fun i _ => l.length - (intOf i).toNat)
  case atStart => exact ⟨0, Nat.zero_le _, rfl, B0⟩
  case round =>
    obtain ⟨k, hkl, rfl, hB⟩ := hrel
    rcases Nat.lt_or_ge k l.length with hlt | hge
    · obtain ⟨p, hp⟩ : ∃ p, l[k]? = some p := ⟨l[k], by simp [hlt]⟩
      obtain ⟨h1, h2⟩ := hk' k p hp
      have g1 := (hB.hb.cell (World.block_lt_of_cell? w _ h1)).trans h1
      have g2 := (hB.hb.cell (World.block_lt_of_cell? w _ h2)).trans h2
      have hB1 := hB.push rfl #[.int .i64 p.1, .int .i64 p.2] 59
      have hB2 := bxs_snoc l (p0.1, p0.2, p0.1, p0.2) k p hp
      generalize bxs (l.take k) (p0.1, p0.2, p0.1, p0.2) = q at *
      obtain ⟨r1, r2, r3, r4⟩ := q
      have hne8 : b7 ≠ wr.heap.size := Nat.ne_of_lt (hB.lt 0 rfl)
      have c0 := hB1.cell 1 rfl 0
      have c1 := hB1.cell 1 rfl 1
      have c2 := hB1.cell 1 rfl 2
      have c3 := hB1.cell 1 rfl 3
      have f0 := fun o => hB1.frozen 1 rfl o
      have m0 := hB1.cell 0 rfl 0
      have m1 := hB1.cell 0 rfl 1
      simp only [List.getElem?_toArray, List.getElem?_cons_zero, List.getElem?_cons_succ] at c0 c1 c2 c3 m0 m1
      clear h1 h2
      go_wp2
      clear c0 c1 c2 c3 m0 m1 f0 g1 g2
      go_roundw
      case rel =>
        refine ⟨k + 1, by omega, by go_num, ?_⟩
        rw [hB2]
        have hap : ∀ q : Array Value, apart b7 0 0 [(b7, q, 118), (w.heap.size, #[.int .i64 0, .int .i64 0, .int .i64 0, .int .i64 0], 118)] := fun q => ⟨.inl rfl, .inr (Ne.symm hne7), trivial⟩
        exact (((hB1.tail.put 0 rfl (hap _) hge7).put 0 rfl (hap _) hge7).put 0 rfl (hap _) hge7).put 0 rfl (hap _) hge7
      case measure => simp [intOf]; omega
    · have hkk : k = l.length := by omega
      subst hkk
      rw [List.take_length, hQ] at hB
      have c0 := hB.cell 0 rfl 0
      have c1 := hB.cell 0 rfl 1
      have c2 := hB.cell 0 rfl 2
      have c3 := hB.cell 0 rfl 3
      have d0 := hB.cell 1 rfl 0
      have d1 := hB.cell 1 rfl 1
      have d2 := hB.cell 1 rfl 2
      have d3 := hB.cell 1 rfl 3
      have f0 := fun o => hB.frozen 1 rfl o
      simp only [List.getElem?_toArray, List.getElem?_cons_zero, List.getElem?_cons_succ] at c0 c1 c2 c3 d0 d1 d2 d3
      clear hk'
      go_wp2
      exact bodyPost_ret (v := .agg #[.int .i64 q1, .int .i64 q2, .int .i64 q3, .int .i64 q4]) (by simp [results, Tryz.results66, go_sem, d0, d1, d2, d3]) rfl ⟨rfl, by
        iterate 4 refine Below.setCell ?_ (by show w.heap.size ≤ w.heap.size; omega) _
        exact hB.hb⟩
theorem _root_.PF.Blk.slp2 {w u : World} {L : List (Nat × Array Value × TypeId)} (h : Blk w u L) (i : Nat) {b : Nat} {T : TypeId} {X0 Y0 X1 Y1 : Int} (hi : L[i]? = some (b, #[.int .i64 X0, .int .i64 Y0, .int .i64 X1, .int .i64 Y1], T)) : SlP u (.slice (some ⟨b, 0, none⟩) 2 2) [(X0, Y0), (X1, Y1)] := by
  have c := fun o => h.cell i hi o
  refine ⟨_, 2, rfl, fun k p hp => ⟨_, 0, rfl, ?_⟩⟩
  match k, hp with
  | 0, hp => cases hp; exact ⟨c 0, c 1⟩
  | 1, hp => cases hp; exact ⟨c 2, c 3⟩

set_option maxHeartbeats 1000000 in
theorem varyRect_c (K S DX DY X0 Y0 X1 Y1 : Int) (hK : 0 ≤ K ∧ K ≤ 7) (hS : 1 ≤ S ∧ S ≤ 8) (hD : -65536 ≤ DX ∧ DX ≤ 65536 ∧ -65536 ≤ DY ∧ DY ≤ 65536) (h0 : -65536 ≤ X0 ∧ X0 ≤ 65536 ∧ -65536 ≤ Y0 ∧ Y0 ≤ 65536) (h1 : -65536 ≤ X1 ∧ X1 ≤ 65536 ∧ -65536 ≤ Y1 ∧ Y1 ≤ 65536) (w : World) :
    Calls Tryz.prog 38 #[.agg #[.int .u8 K, .int .i64 S, .int .i64 DX, .int .i64 DY], .agg #[.int .i64 X0, .int .i64 Y0, .int .i64 X1, .int .i64 Y1]] w fun e w' => e = .returned (.agg #[.int .i64 (rx0 K S DX DY X0 Y0 X1 Y1), .int .i64 (ry0 K S DX DY X0 Y0 X1 Y1), .int .i64 (rx1 K S DX DY X0 Y0 X1 Y1), .int .i64 (ry1 K S DX DY X0 Y0 X1 Y1)]) ∧ Below w.heap.size w w' := by
  have hl : ∀ p ∈ [(X0, Y0), (X1, Y1)], -65536 ≤ p.1 ∧ p.1 ≤ 65536 ∧ -65536 ≤ p.2 ∧ p.2 ≤ 65536 := by
    intro p hp
    simp at hp
    rcases hp with rfl | rfl <;> (simp only; omega)
  have bx2 : (.agg #[.int .i64 (bxs ([(X0, Y0), (X1, Y1)].map (tpt K S DX DY)) ((tpt K S DX DY (X0, Y0)).1, (tpt K S DX DY (X0, Y0)).2, (tpt K S DX DY (X0, Y0)).1, (tpt K S DX DY (X0, Y0)).2)).1, .int .i64 (bxs ([(X0, Y0), (X1, Y1)].map (tpt K S DX DY)) ((tpt K S DX DY (X0, Y0)).1, (tpt K S DX DY (X0, Y0)).2, (tpt K S DX DY (X0, Y0)).1, (tpt K S DX DY (X0, Y0)).2)).2.1, .int .i64 (bxs ([(X0, Y0), (X1, Y1)].map (tpt K S DX DY)) ((tpt K S DX DY (X0, Y0)).1, (tpt K S DX DY (X0, Y0)).2, (tpt K S DX DY (X0, Y0)).1, (tpt K S DX DY (X0, Y0)).2)).2.2.1, .int .i64 (bxs ([(X0, Y0), (X1, Y1)].map (tpt K S DX DY)) ((tpt K S DX DY (X0, Y0)).1, (tpt K S DX DY (X0, Y0)).2, (tpt K S DX DY (X0, Y0)).1, (tpt K S DX DY (X0, Y0)).2)).2.2.2] : Value) = .agg #[.int .i64 (rx0 K S DX DY X0 Y0 X1 Y1), .int .i64 (ry0 K S DX DY X0 Y0 X1 Y1), .int .i64 (rx1 K S DX DY X0 Y0 X1 Y1), .int .i64 (ry1 K S DX DY X0 Y0 X1 Y1)] := by
    simp [bxs, rx0, ry0, rx1, ry1]
  have B0 := (((Blk.nil w).push rfl #[.int .u8 K, .int .i64 S, .int .i64 DX, .int .i64 DY] 23).push (b := w.heap.size + 1) (by simp) #[.int .i64 X0, .int .i64 Y0, .int .i64 X1, .int .i64 Y1] 49).push (b := w.heap.size + 1 + 1) (by simp) #[.int .i64 0, .int .i64 0, .int .i64 0, .int .i64 0] 49
  have z0 := B0.cell 2 rfl 0
  have z1 := B0.cell 2 rfl 1
  have z2 := B0.cell 2 rfl 2
  have z3 := B0.cell 2 rfl 3
  simp only [List.getElem?_toArray, List.getElem?_cons_zero, List.getElem?_cons_succ] at z0 z1 z2 z3
  go_enter Tryz.func38, Tryz.ntmps38
  go_wp2
  refine wp_region_K [] [.val (.agg #[.int .u8 K, .int .i64 S, .int .i64 DX, .int .i64 DY]),
      .val (.slice (some ⟨w.heap.size + 1, 0, none⟩) 2 2),
      .slr ([(X0, Y0), (X1, Y1)].map (tpt K S DX DY)),
      .slr ([(X0, Y0), (X1, Y1)].map (tpt K S DX DY)),
      .val (.agg #[.int .i64 (rx0 K S DX DY X0 Y0 X1 Y1), .int .i64 (ry0 K S DX DY X0 Y0 X1 Y1), .int .i64 (rx1 K S DX DY X0 Y0 X1 Y1), .int .i64 (ry1 K S DX DY X0 Y0 X1 Y1)]),
      .made 118 4,
      .filled 5 #[.int .i64 (rx0 K S DX DY X0 Y0 X1 Y1), .int .i64 (ry0 K S DX DY X0 Y0 X1 Y1), .int .i64 (rx1 K S DX DY X0 Y0 X1 Y1), .int .i64 (ry1 K S DX DY X0 Y0 X1 Y1)] 118]
    [[.ini 2], [.ini 3], [.frm 0 6, .frm 1 7], [.frm 2 8], [.frm 3 9], [], [.frm 5 5, .frm 4 10]]
    mixed (by kernel_rfl) (by kernel_rfl) (allPre_of ⟨trivial, trivial, trivial, trivial, trivial, trivial, trivial, trivial⟩)
    ⟨OpOk.quiet rfl ?_,
      OpOk.quiet rfl ?_,
      OpOk.call rfl ?_,
      OpOk.call rfl ?_,
      OpOk.call rfl ?_,
      OpOk.made (cs := #[.int .i64 0, .int .i64 0, .int .i64 0, .int .i64 0]) rfl rfl ?_,
      OpOk.fillRow (k := 5) rfl rfl (by kernel_rfl) rfl (oldLt_of ⟨(fun _ h => (nomatch h)), (fun _ h => (nomatch h)), (fun _ h => (nomatch h)), (fun _ h => (nomatch h)), (fun _ h => (nomatch h)), (fun _ h => (nomatch h)), (fun _ h => (nomatch h)), trivial⟩) (by kernel_rfl) (by simp [Value.oneCell']) (fun a w hf => ⟨hf.1, hf.2.1.elim fun _ h => h.elim fun _ h => h⟩) (fun _ _ _ h hb => Keep.setRow h (.inl hb)), trivial⟩ ?_
  · intro a u hG hf
    simp [facts, Need.fact, Act.eval] at hf
    have hc := True.intro
    have y0 := (hG.cell (p := ⟨w.heap.size, 0, none⟩) (by simp; omega) (by simp)).trans z0
    have y1 := (hG.cell (p := ⟨w.heap.size, 1, none⟩) (by simp; omega) (by simp)).trans z1
    have y2 := (hG.cell (p := ⟨w.heap.size, 2, none⟩) (by simp; omega) (by simp)).trans z2
    have y3 := (hG.cell (p := ⟨w.heap.size, 3, none⟩) (by simp; omega) (by simp)).trans z3
    go_simp
  · intro a u _ hf
    simp [facts, Need.fact, Act.eval] at hf
    go_simp
  · intro a u hG hf
    simp [facts, Need.fact, Ent.val, Act.eval] at hf
    have hs : SlP u (.slice (some ⟨w.heap.size + 1, 0, none⟩) 2 2) [(X0, Y0), (X1, Y1)] := (B0.keep hG (fun i x _ => by simp) (fun x hx => by simp at hx)).slp2 1 rfl
    refine ⟨_, _, by go_simp, (varyTurned_n K S DX DY hK hS hD [(X0, Y0), (X1, Y1)] hl (by simp) _ _ hs).mono ?_⟩
    rintro e w' ⟨v', rfl, hv, hb⟩
    exact ⟨_, rfl, hb, hv⟩
  · intro a u hG hf
    simp [facts, Need.fact, Ent.of, Act.eval] at hf
    obtain ⟨l2, h2, hs⟩ := hf
    refine ⟨_, _, by go_simp, (varyOf_n ([(X0, Y0), (X1, Y1)].map (tpt K S DX DY)) (by simp) _ _ hs.p).mono ?_⟩
    rintro e w' ⟨v', rfl, hv, hb⟩
    exact ⟨_, rfl, hb, hv⟩
  · intro a u hG hf
    simp [facts, Need.fact, Ent.of, Act.eval] at hf
    obtain ⟨l2, h2, hs⟩ := hf
    refine ⟨_, _, by go_simp, (vrect_c ([(X0, Y0), (X1, Y1)].map (tpt K S DX DY)) (tpt K S DX DY (X0, Y0)) rfl (by simp) _ _ hs.p).mono ?_⟩
    rintro e w' ⟨rfl, hb⟩
    exact ⟨_, rfl, hb, bx2⟩
  · intro a u _ _
    go_simp
  intro u lw hw wc hK hE hI hD
  simp [allE, allPut, Act.put, Act.eval, Ent.filledP, Ent.made, Ent.slr, Ent.val] at hE
  obtain ⟨u0, u1, _, _, u4, ⟨b5, u5, l5, h5, -⟩, ⟨c6, v6, g6⟩⟩ := hE
  obtain rfl : b5 = c6 := by rw [u5] at v6; simpa using v6
  simp only [allPut, Act.put, u0, u1, u5]
  clear u0 u1 u5 v6
  have B1 := (B0.keep hK (fun i x _ => by simp) (fun x hx => by simp at hx)).add g6
  generalize u (0 + 1 + 1) = e2 at *
  generalize u (0 + 1 + 1 + 1) = e3 at *
  generalize u (0 + 1 + 1 + 1 + 1) = e4 at *
  have q0 := B1.cell 0 rfl 0
  have q1 := B1.cell 0 rfl 1
  have q2 := B1.cell 0 rfl 2
  have q3 := B1.cell 0 rfl 3
  have d0 := B1.cell 1 rfl 0
  have d1 := B1.cell 1 rfl 1
  have d2 := B1.cell 1 rfl 2
  have d3 := B1.cell 1 rfl 3
  have f0 := fun o => B1.frozen 1 rfl o
  simp only [List.getElem?_toArray, List.getElem?_cons_zero, List.getElem?_cons_succ] at q0 q1 q2 q3 d0 d1 d2 d3
  clear hK hI hD g6 z0 z1 z2 z3 bx2 hl l5 h5
  go_wp2
  exact bodyPost_ret (v := .agg #[.int .i64 (rx0 K S DX DY X0 Y0 X1 Y1), .int .i64 (ry0 K S DX DY X0 Y0 X1 Y1), .int .i64 (rx1 K S DX DY X0 Y0 X1 Y1), .int .i64 (ry1 K S DX DY X0 Y0 X1 Y1)]) (by simp [results, Tryz.results38, go_sem, d0, d1, d2, d3]) rfl ⟨rfl, by
    iterate 4 refine Below.setCell ?_ (by show w.heap.size ≤ w.heap.size + 1 + 1; omega) _
    exact B1.hb⟩

end Go.Proofs.YtbfanhdofopnnaaGreat
