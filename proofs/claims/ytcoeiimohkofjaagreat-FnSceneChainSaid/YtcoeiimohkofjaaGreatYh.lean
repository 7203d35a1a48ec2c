import Derived.Test.YtcoeiimohkofjaaGreatQY
set_option linter.unusedSimpArgs false
set_option linter.unusedVariables false
/-! spec.IsSimpleRing, exactly (printed by gen/yh.py). -/
namespace PF
def nxj (n k : Nat) : Nat := if k + 2 < n then k + 2 else k + 2 - n
theorem nxj_lt {n k : Nat} (h : k < n) (h2 : 2 ≤ n) : nxj n k < n := by unfold nxj; split <;> omega
theorem nxj_mod {n k : Nat} (h : k < n) (h2 : 3 ≤ n) : Int.tmod ((k : Int) + 2) (n : Int) = (nxj n k : Nat) := by
  have : ((k : Int) + 2) = ((k + 2 : Nat) : Int) := by omega
  rw [this, ← Int.ofNat_tmod]
  unfold nxj
  split
  · rw [Nat.mod_eq_of_lt (by omega)]
  · rw [Nat.mod_eq_sub_mod (by omega), Nat.mod_eq_of_lt (by omega)]
end PF
namespace Go.Proofs.YtcoeiimohkofjaaGreat
open Go Go.RowKit PF JR
/-- a corner that is none; two edges that meet -/
def sbd1 (l : List (Int × Int)) (i : Nat) : Bool := decide (at' l i = nxp l i) || decide (gsd (at' l i) (nxp l i) (at' l (nxj l.length i)) = 0)
def sbd2 (l : List (Int × Int)) (i k : Nat) : Bool := !(decide (i = 0) && decide (k + 1 = l.length)) && gmt (at' l i) (nxp l i) (at' l k) (nxp l k)
def sbd (l : List (Int × Int)) (i : Nat) : Bool := sbd1 l i || anyN (fun j => sbd2 l i (i + 2 + j)) (l.length - (i + 2))
/-- spec.IsSimpleRing -/
def simB (l : List (Int × Int)) : Bool := decide (3 ≤ l.length) && (decide (l.length ≤ 12) && (iscB l 12 && !anyN (sbd l) l.length))
set_option maxRecDepth 100000 in
set_option maxHeartbeats 4000000 in
theorem sim_c (l : List (Int × Int)) (hl0 : l.length ≤ 9223372036854775807) (v : Value) (w : World) (hv : SlP w v l) :
    Calls Tryz.prog 24 #[v] w fun e w' => e = .returned (.bool (simB l)) ∧ Below w.heap.size w w' := by
  have hisc := isc_c l 12 hl0 v
  obtain ⟨A, c, rfl, hk⟩ := id hv
  unfold simB
  obtain ⟨ans, hans⟩ : ∃ q, (decide (3 ≤ l.length) && (decide (l.length ≤ 12) && (iscB l 12 && !anyN (sbd l) l.length))) = q := ⟨_, rfl⟩
  rw [hans]
  by_cases h3 : l.length < 3
  · rw [decide_eq_false (by omega), Bool.false_and] at hans
    subst hans
    have d3 : (l.length : Int) < 3 := by omega
    have d3' := decide_eq_true d3
    clear hisc hk hv h3
    generalize l.length = n at *
    go_enter Tryz.func24, Tryz.ntmps24
    go_wp2
    go_ret
    exact ⟨rfl, Below.refl _ _⟩
  rw [decide_eq_true (by omega), Bool.true_and] at hans
  have d3 : ¬ (l.length : Int) < 3 := by omega
  have d3' := decide_eq_false d3
  by_cases h12 : l.length ≤ 12
  case neg =>
    rw [decide_eq_false h12, Bool.false_and] at hans
    subst hans
    have d4 : (l.length : Int) > 12 := by omega
    have d4' := decide_eq_true d4
    have d4'' : (12 : Int) < (l.length : Int) := by omega
    clear hisc hk hv h3 h12
    generalize l.length = n at *
    go_enter Tryz.func24, Tryz.ntmps24
    go_wp2
    go_ret
    exact ⟨rfl, Below.refl _ _⟩
  rw [decide_eq_true h12, Bool.true_and] at hans
  have d4 : ¬ (l.length : Int) > 12 := by omega
  have d4' := decide_eq_false d4
  have d4'' : ¬ (12 : Int) < (l.length : Int) := by omega
  cases his : iscB l 12 with
  | false =>
    rw [his, Bool.false_and] at hans
    simp only [his] at hisc
    subst hans
    clear hk h3 h12
    generalize l.length = n at *
    go_enter Tryz.func24, Tryz.ntmps24
    go_wp2_with (go_at_call 17; refine JR.StopY.out ?_)
    refine ⟨?_⟩
    refine (hisc _ hv).mono ?_
    rintro e w1 ⟨rfl, hb⟩
    go_wp2
    go_ret
    exact ⟨rfl, hb⟩
  | true =>
  rw [his, Bool.true_and] at hans
  have hbs : ∀ p ∈ l, Bs p := fun p hp => by
    unfold iscB at his
    rw [Bool.and_eq_true, List.all_eq_true] at his
    have := of_decide_eq_true (his.2 p hp)
    unfold Bs; omega
  simp only [his] at hisc
  have hgs := fun (i : Nat) (u : World) => gsd_c (at_bs hbs i) (at_bs hbs (nxi l.length i)) (at_bs hbs (nxj l.length i)) u
  have hgm := fun (i k : Nat) (u : World) => gmt_c (at_bs hbs i) (at_bs hbs (nxi l.length i)) (at_bs hbs k) (at_bs hbs (nxi l.length k)) u
  have hgi : ∀ k, gsd (at' l k) (at' l (nxi l.length k)) (at' l (nxj l.length k)) = gsd (at' l k) (nxp l k) (at' l (nxj l.length k)) := fun _ => rfl
  obtain ⟨F, hF⟩ : ∃ F : Nat → Bool, sbd l = F := ⟨_, rfl⟩
  rw [hF] at hans
  obtain ⟨G, hG⟩ : ∃ G : Nat → Nat → Bool, (fun i k => gmt (at' l i) (at' l (nxi l.length i)) (at' l k) (at' l (nxi l.length k))) = G := ⟨_, rfl⟩
  have hF1 : ∀ i, F i = ((decide (at' l i = at' l (nxi l.length i)) || decide (gsd (at' l i) (at' l (nxi l.length i)) (at' l (nxj l.length i)) = 0)) || anyN (fun j => !(decide (i = 0) && decide (i + 2 + j + 1 = l.length)) && G i (i + 2 + j)) (l.length - (i + 2))) := fun i => by rw [← hF, ← hG]; rfl
  have hG1 : ∀ i k, gmt (at' l i) (at' l (nxi l.length i)) (at' l k) (at' l (nxi l.length k)) = G i k := fun i k => congrFun (congrFun hG i) k
  simp only [hG1] at hgm
  clear hF hG hG1 hgi his hbs
  have hat := fun (i j : Nat) (hi : i < l.length) (hj : j < l.length) => SlP.two hk hi hj
  clear hk
  generalize l.length = n at *
  go_enter Tryz.func24, Tryz.ntmps24
  go_wp2_with (go_at_call 17; refine JR.StopY.out ?_)
  refine ⟨?_⟩
  refine (hisc _ hv).mono ?_
  rintro e w0 ⟨rfl, hb0⟩
  clear hisc
  go_wp2
  go_loopw [23] (fun q wr => ∃ i : Nat, i ≤ n ∧ q = .int .i64 i ∧ anyN F i = false ∧ Below w.heap.size w wr) (fun q _ => n - (intOf q).toNat)
  case atStart => exact ⟨0, Nat.zero_le _, rfl, rfl, hb0⟩
  case round =>
    clear hb0
    obtain ⟨i, hil, rfl, ho, hst⟩ := hrel
    rcases Nat.lt_or_ge i n with hlt | hge
    · have hF1 := hF1 i
      have hgs := hgs i
      have hgm := hgm i
      have hi1 := nxi_lt hlt
      have hi2 := nxj_lt hlt (by omega)
      have hm1 := nxi_mod hlt
      have hm2 := nxj_mod hlt (by omega)
      obtain ⟨bb, off, rfl, e1, e2, e3, e4⟩ := hat i (nxi n i) hlt hi1
      obtain ⟨bb', off', hbo, -, -, e5, e6⟩ := hat i (nxj n i) hlt hi2
      cases hbo
      generalize nxi n i = i1 at *
      generalize nxj n i = i2 at *
      have hst0 := hst
      have e1 := (hst.cell (World.block_lt_of_cell? w _ e1)).trans e1
      have e2 := (hst.cell (World.block_lt_of_cell? w _ e2)).trans e2
      have e3 := (hst.cell (World.block_lt_of_cell? w _ e3)).trans e3
      have e4 := (hst.cell (World.block_lt_of_cell? w _ e4)).trans e4
      have e5 := (hst.cell (World.block_lt_of_cell? w _ e5)).trans e5
      have e6 := (hst.cell (World.block_lt_of_cell? w _ e6)).trans e6
      have hcel : ∀ u, Keep [] wr u → (u.cell? ⟨bb, off + i * 2, none⟩ = some (.int .i64 (at' l i).1) ∧ u.cell? ⟨bb, off + i * 2 + 1, none⟩ = some (.int .i64 (at' l i).2)) ∧ (u.cell? ⟨bb, off + i1 * 2, none⟩ = some (.int .i64 (at' l i1).1) ∧ u.cell? ⟨bb, off + i1 * 2 + 1, none⟩ = some (.int .i64 (at' l i1).2)) ∧ (u.cell? ⟨bb, off + i2 * 2, none⟩ = some (.int .i64 (at' l i2).1) ∧ u.cell? ⟨bb, off + i2 * 2 + 1, none⟩ = some (.int .i64 (at' l i2).2)) :=
        fun u hG => ⟨⟨(hG.cell (World.block_lt_of_cell? _ _ e1) (by simp)).trans e1, (hG.cell (World.block_lt_of_cell? _ _ e2) (by simp)).trans e2⟩, ⟨(hG.cell (World.block_lt_of_cell? _ _ e3) (by simp)).trans e3, (hG.cell (World.block_lt_of_cell? _ _ e4) (by simp)).trans e4⟩, ⟨(hG.cell (World.block_lt_of_cell? _ _ e5) (by simp)).trans e5, (hG.cell (World.block_lt_of_cell? _ _ e6) (by simp)).trans e6⟩⟩
      clear e1 e2 e3 e4 e5 e6
      have hlt' : (i : Int) < (n : Int) := by omega
      have hlt1 : (i1 : Int) < (n : Int) := by omega
      have hlt2 : (i2 : Int) < (n : Int) := by omega
      have hn0 : ¬ n = 0 := by omega
      have hw1 : Go.IntKind.i64.wrap ((i : Int) + 1) = (i : Int) + 1 := wrapS (by omega)
      have hw2 : Go.IntKind.i64.wrap ((i : Int) + 2) = (i : Int) + 2 := wrapS (by omega)
      go_upto_region 7 with (fail)
      refine wp_region_K [] [.val (.slice (some ⟨bb, off, none⟩) n c),
          .val (.int .i64 (i : Nat)),
          .val (.pointer (some ⟨bb, off + i * 2, none⟩)),
          .val (.agg #[.int .i64 (at' l i).1, .int .i64 (at' l i).2]),
          .val (.slice (some ⟨bb, off, none⟩) n c),
          .val (.int .i64 (i : Nat)),
          .val (.int .i64 ((i : Int) + 1)),
          .val (.int .i64 (n : Nat)),
          .val (.int .i64 (i1 : Nat)),
          .val (.pointer (some ⟨bb, off + i1 * 2, none⟩)),
          .val (.agg #[.int .i64 (at' l i1).1, .int .i64 (at' l i1).2]),
          .val (.slice (some ⟨bb, off, none⟩) n c),
          .val (.int .i64 (i : Nat)),
          .val (.int .i64 ((i : Int) + 2)),
          .val (.int .i64 (n : Nat)),
          .val (.int .i64 (i2 : Nat)),
          .val (.pointer (some ⟨bb, off + i2 * 2, none⟩)),
          .val (.agg #[.int .i64 (at' l i2).1, .int .i64 (at' l i2).2]),
          .made 27 2,
          .made 27 2,
          .made 27 2,
          .filled 5 #[.int .i64 (at' l i).1, .int .i64 (at' l i).2] 27,
          .filled 6 #[.int .i64 (at' l i1).1, .int .i64 (at' l i1).2] 27,
          .filled 7 #[.int .i64 (at' l i2).1, .int .i64 (at' l i2).2] 27]
        [[.ini 0], [.ini 4], [.frm 0 26, .frm 1 27], [.frm 2 28], [.ini 0], [.ini 4], [.frm 5 31], [.ini 3], [.frm 6 32, .frm 7 33], [.frm 4 30, .frm 8 34], [.frm 9 35], [.ini 0], [.ini 4], [.frm 12 38], [.ini 3], [.frm 13 39, .frm 14 40], [.frm 11 37, .frm 15 41], [.frm 16 42], [], [], [], [.frm 18 5, .frm 3 29], [.frm 19 6, .frm 10 36], [.frm 20 7, .frm 17 43]]
        mixed (by kernel_rfl) (by kernel_rfl) (allPre_of ⟨trivial, trivial, trivial, trivial, trivial, trivial, trivial, trivial, trivial, trivial, trivial, trivial, trivial, trivial, trivial, trivial, trivial, trivial, trivial, trivial, trivial, trivial, trivial, trivial, trivial⟩)
        ⟨OpOk.quiet rfl ?_,
          OpOk.quiet rfl ?_,
          OpOk.quiet rfl ?_,
          OpOk.quiet rfl ?_,
          OpOk.quiet rfl ?_,
          OpOk.quiet rfl ?_,
          OpOk.quiet rfl ?_,
          OpOk.quiet rfl ?_,
          OpOk.quiet rfl ?_,
          OpOk.quiet rfl ?_,
          OpOk.quiet rfl ?_,
          OpOk.quiet rfl ?_,
          OpOk.quiet rfl ?_,
          OpOk.quiet rfl ?_,
          OpOk.quiet rfl ?_,
          OpOk.quiet rfl ?_,
          OpOk.quiet rfl ?_,
          OpOk.quiet rfl ?_,
          OpOk.made (cs := #[.int .i64 0, .int .i64 0]) rfl rfl ?_,
          OpOk.made (cs := #[.int .i64 0, .int .i64 0]) rfl rfl ?_,
          OpOk.made (cs := #[.int .i64 0, .int .i64 0]) rfl rfl ?_,
          OpOk.fillRow (k := 18) rfl rfl (by kernel_rfl) rfl (oldLt_of ⟨(fun _ h => (nomatch h)), (fun _ h => (nomatch h)), (fun _ h => (nomatch h)), (fun _ h => (nomatch h)), (fun _ h => (nomatch h)), (fun _ h => (nomatch h)), (fun _ h => (nomatch h)), (fun _ h => (nomatch h)), (fun _ h => (nomatch h)), (fun _ h => (nomatch h)), (fun _ h => (nomatch h)), (fun _ h => (nomatch h)), (fun _ h => (nomatch h)), (fun _ h => (nomatch h)), (fun _ h => (nomatch h)), (fun _ h => (nomatch h)), (fun _ h => (nomatch h)), (fun _ h => (nomatch h)), (fun _ h => (nomatch h)), (fun _ h => (nomatch h)), (fun _ h => (nomatch h)), (fun _ h => (nomatch h)), (fun _ h => (nomatch h)), (fun _ h => (nomatch h)), trivial⟩) (by kernel_rfl) (by simp [Value.oneCell']) (fun a w hf => ⟨hf.1, hf.2.1.elim fun _ h => h.elim fun _ h => h⟩) (fun _ _ _ h hb => Keep.setRow h (.inl hb)),
          OpOk.fillRow (k := 19) rfl rfl (by kernel_rfl) rfl (oldLt_of ⟨(fun _ h => (nomatch h)), (fun _ h => (nomatch h)), (fun _ h => (nomatch h)), (fun _ h => (nomatch h)), (fun _ h => (nomatch h)), (fun _ h => (nomatch h)), (fun _ h => (nomatch h)), (fun _ h => (nomatch h)), (fun _ h => (nomatch h)), (fun _ h => (nomatch h)), (fun _ h => (nomatch h)), (fun _ h => (nomatch h)), (fun _ h => (nomatch h)), (fun _ h => (nomatch h)), (fun _ h => (nomatch h)), (fun _ h => (nomatch h)), (fun _ h => (nomatch h)), (fun _ h => (nomatch h)), (fun _ h => (nomatch h)), (fun _ h => (nomatch h)), (fun _ h => (nomatch h)), (fun _ h => (nomatch h)), (fun _ h => (nomatch h)), (fun _ h => (nomatch h)), trivial⟩) (by kernel_rfl) (by simp [Value.oneCell']) (fun a w hf => ⟨hf.1, hf.2.1.elim fun _ h => h.elim fun _ h => h⟩) (fun _ _ _ h hb => Keep.setRow h (.inl hb)),
          OpOk.fillRow (k := 20) rfl rfl (by kernel_rfl) rfl (oldLt_of ⟨(fun _ h => (nomatch h)), (fun _ h => (nomatch h)), (fun _ h => (nomatch h)), (fun _ h => (nomatch h)), (fun _ h => (nomatch h)), (fun _ h => (nomatch h)), (fun _ h => (nomatch h)), (fun _ h => (nomatch h)), (fun _ h => (nomatch h)), (fun _ h => (nomatch h)), (fun _ h => (nomatch h)), (fun _ h => (nomatch h)), (fun _ h => (nomatch h)), (fun _ h => (nomatch h)), (fun _ h => (nomatch h)), (fun _ h => (nomatch h)), (fun _ h => (nomatch h)), (fun _ h => (nomatch h)), (fun _ h => (nomatch h)), (fun _ h => (nomatch h)), (fun _ h => (nomatch h)), (fun _ h => (nomatch h)), (fun _ h => (nomatch h)), (fun _ h => (nomatch h)), trivial⟩) (by kernel_rfl) (by simp [Value.oneCell']) (fun a w hf => ⟨hf.1, hf.2.1.elim fun _ h => h.elim fun _ h => h⟩) (fun _ _ _ h hb => Keep.setRow h (.inl hb)), trivial⟩ ?_
      · intro a u _ hf
        simp [facts, Need.fact, Act.eval] at hf
        go_simp
      · intro a u _ hf
        simp [facts, Need.fact, Act.eval] at hf
        go_simp
      · intro a u _ hf
        simp [facts, Need.fact, Ent.val, Act.eval] at hf
        go_simp
      · intro a u hG hf
        simp [facts, Need.fact, Ent.val, Act.eval] at hf
        have hc := hcel u hG
        go_simp
      · intro a u _ hf
        simp [facts, Need.fact, Act.eval] at hf
        go_simp
      · intro a u _ hf
        simp [facts, Need.fact, Act.eval] at hf
        go_simp
      · intro a u _ hf
        simp [facts, Need.fact, Ent.val, Act.eval] at hf
        go_simp
      · intro a u _ hf
        simp [facts, Need.fact, Act.eval] at hf
        go_simp
      · intro a u _ hf
        simp [facts, Need.fact, Ent.val, Act.eval] at hf
        go_simp
      · intro a u _ hf
        simp [facts, Need.fact, Ent.val, Act.eval] at hf
        go_simp
      · intro a u hG hf
        simp [facts, Need.fact, Ent.val, Act.eval] at hf
        have hc := hcel u hG
        go_simp
      · intro a u _ hf
        simp [facts, Need.fact, Act.eval] at hf
        go_simp
      · intro a u _ hf
        simp [facts, Need.fact, Act.eval] at hf
        go_simp
      · intro a u _ hf
        simp [facts, Need.fact, Ent.val, Act.eval] at hf
        go_simp
      · intro a u _ hf
        simp [facts, Need.fact, Act.eval] at hf
        go_simp
      · intro a u _ hf
        simp [facts, Need.fact, Ent.val, Act.eval] at hf
        go_simp
      · intro a u _ hf
        simp [facts, Need.fact, Ent.val, Act.eval] at hf
        go_simp
      · intro a u hG hf
        simp [facts, Need.fact, Ent.val, Act.eval] at hf
        have hc := hcel u hG
        go_simp
      · intro a u _ _
        go_simp
      · intro a u _ _
        go_simp
      · intro a u _ _
        go_simp
      intro u lw hw w1 hK hE hI hD
      simp [allE, allPut, Act.put, Act.eval, Ent.filledP, Ent.made, Ent.val] at hE
      obtain ⟨u0, u1, u2, u3, u4, u5, u6, u7, u8, u9, u10, u11, u12, u13, u14, u15, u16, u17, ⟨b18, u18, l18, h18, -⟩, ⟨b19, u19, l19, h19, -⟩, ⟨b20, u20, l20, h20, -⟩, ⟨c21, v21, g21⟩, ⟨c22, v22, g22⟩, ⟨c23, v23, g23⟩⟩ := hE
      obtain rfl : b18 = c21 := by rw [u18] at v21; simpa using v21
      obtain rfl : b19 = c22 := by rw [u19] at v22; simpa using v22
      obtain rfl : b20 = c23 := by rw [u20] at v23; simpa using v23
      simp only [allPut, Act.put, u0, u1, u2, u3, u4, u5, u6, u7, u8, u9, u10, u11, u12, u13, u14, u15, u16, u17, u18, u19, u20]
      clear u0 u1 u2 u3 u4 u5 u6 u7 u8 u9 u10 u11 u12 u13 u14 u15 u16 u17 u18 u19 u20 v21 v22 v23
      have st1 : Blk w w1 [(b18, #[.int .i64 (at' l i).1, .int .i64 (at' l i).2], 27), (b19, #[.int .i64 (at' l i1).1, .int .i64 (at' l i1).2], 27), (b20, #[.int .i64 (at' l i2).1, .int .i64 (at' l i2).2], 27)] := ((((show Blk w wr [] from ⟨fun i x h => by simp at h, hst⟩).keep0 hK).add g23).add g22).add g21
      clear hcel hK hI hD g21 g22 g23 hst0 hst
      have x0 := st1.cell 0 rfl 0
      have x1 := st1.cell 0 rfl 1
      have y0 := st1.cell 1 rfl 0
      have y1 := st1.cell 1 rfl 1
      have z0 := st1.cell 2 rfl 0
      have z1 := st1.cell 2 rfl 1
      simp only [List.getElem?_toArray, List.getElem?_cons_zero, List.getElem?_cons_succ] at x0 x1 y0 y1 z0 z1
      have heq := fun u => eqGP (p := at' l i) (q := at' l i1) (b := decide (at' l i = at' l i1)) rfl u
      by_cases hab : at' l i = at' l i1
      · have hz := anyN_hit hlt (show F i = true by rw [hF1, decide_eq_true hab]; rfl)
        rw [decide_eq_true hab] at heq
        rw [hz] at hans
        clear hab hF1 hgs hgm
        go_wp2
        go_ret
        exact ⟨by rw [← hans]; rfl, st1.hb⟩
      rw [decide_eq_false hab] at heq hF1
      rw [Bool.false_or] at hF1
      go_wp2_with (go_at_call 41; refine JR.StopY.out ?_)
      refine ⟨?_⟩
      refine (hgs _).mono ?_
      rintro e w2 ⟨rfl, hb⟩
      have st2 := st1.ext hb
      clear hb st1 hgs x0 x1 y0 y1 z0 z1 heq hab
      by_cases hs : gsd (at' l i) (at' l i1) (at' l i2) = 0
      · have hz := anyN_hit hlt (show F i = true by rw [hF1, decide_eq_true hs]; rfl)
        rw [hz] at hans
        clear hF1 hgm
        generalize gsd (at' l i) (at' l i1) (at' l i2) = sd at *
        go_wp2
        go_ret
        exact ⟨by rw [← hans]; rfl, st2.hb⟩
      rw [decide_eq_false hs, Bool.false_or] at hF1
      generalize gsd (at' l i) (at' l i1) (at' l i2) = sd at *
      obtain ⟨G', hG'⟩ : ∃ G' : Nat → Bool, (fun j => !(decide (i = 0) && decide (i + 2 + j + 1 = n)) && G i (i + 2 + j)) = G' := ⟨_, rfl⟩
      rw [hG'] at hF1
      have hG1 : ∀ k, i + 2 ≤ k → G' (k - (i + 2)) = (!(decide (i = 0) && decide (k + 1 = n)) && G i k) := fun k hk => by
        have e : i + 2 + (k - (i + 2)) = k := by omega
        rw [← hG']
        show (!(decide (i = 0) && decide (i + 2 + (k - (i + 2)) + 1 = n)) && G i (i + 2 + (k - (i + 2)))) = _
        rw [e]
      clear hG'
      go_wp2
      go_loopw [8] (fun q wr => ∃ k : Nat, i + 2 ≤ k ∧ (k ≤ n ∨ k = i + 2) ∧ q = .int .i64 (k : Nat) ∧ anyN G' (k - (i + 2)) = false ∧ Blk w wr [(b18, #[.int .i64 (at' l i).1, .int .i64 (at' l i).2], 27), (b19, #[.int .i64 (at' l i1).1, .int .i64 (at' l i1).2], 27), (b20, #[.int .i64 (at' l i2).1, .int .i64 (at' l i2).2], 27)]) (fun q _ => n - (intOf q).toNat)
      case atStart => exact ⟨i + 2, Nat.le_refl _, .inr rfl, by go_num, by rw [Nat.sub_self]; rfl, st2⟩
      case round =>
        clear st2
        obtain ⟨k, hik, hkn, rfl, hok, hsk⟩ := hrel
        have hG1 := hG1 k hik
        rcases Nat.lt_or_ge k n with hkl | hkg
        · have hkl' : (k : Int) < (n : Int) := by omega
          have hwn : Go.IntKind.i64.wrap ((n : Int) - 1) = (n : Int) - 1 := wrapS (by omega)
          have hwk : Go.IntKind.i64.wrap ((k : Int) + 1) = (k : Int) + 1 := wrapS (by omega)
          by_cases hc : i = 0 ∧ k + 1 = n
          · obtain ⟨rfl, hkn1⟩ := hc
            rw [decide_eq_true rfl, decide_eq_true hkn1] at hG1
            have hq1 : (k : Int) = (n : Int) - 1 := by omega
            have hstep := anyN_step hok (show G' (k - (0 + 2)) = false from hG1)
            rw [show k - (0 + 2) + 1 = k + 1 - (0 + 2) by omega] at hstep
            clear hG1 hgm
            go_wp2
            exact ⟨⟨k + 1, by omega, .inl (by omega), by go_num, hstep, hsk⟩, by simp only [intOf]; omega⟩
          · have hG2 : G' (k - (i + 2)) = G i k := by
              rw [hG1]
              rcases Classical.em (i = 0) with h | h
              · rw [decide_eq_false (show ¬ k + 1 = n from fun h' => hc ⟨h, h'⟩), Bool.and_false]; rfl
              · rw [decide_eq_false h]; rfl
            have hgm := hgm k
            have hk1 := nxi_lt hkl
            have hmk := nxi_mod hkl
            obtain ⟨bb2, off2, hbo, r1, r2, r3, r4⟩ := hat k (nxi n k) hkl hk1
            cases hbo
            generalize nxi n k = kx at *
            have hkx' : (kx : Int) < (n : Int) := by omega
            have r1 := (hsk.hb.cell (World.block_lt_of_cell? w _ r1)).trans r1
            have r2 := (hsk.hb.cell (World.block_lt_of_cell? w _ r2)).trans r2
            have r3 := (hsk.hb.cell (World.block_lt_of_cell? w _ r3)).trans r3
            have r4 := (hsk.hb.cell (World.block_lt_of_cell? w _ r4)).trans r4
            have x0 := hsk.cell 0 rfl 0
            have x1 := hsk.cell 0 rfl 1
            have y0 := hsk.cell 1 rfl 0
            have y1 := hsk.cell 1 rfl 1
            simp only [List.getElem?_toArray, List.getElem?_cons_zero, List.getElem?_cons_succ] at x0 x1 y0 y1
            have hex : (i = 0 ∧ ¬ (k : Int) = (n : Int) - 1) ∨ ¬ (i : Int) = 0 := by omega
            have hgo : ∀ (hi0 : (decide ((i : Int) = 0) = true ∧ i = 0 ∧ ¬ (k : Int) = (n : Int) - 1) ∨ (decide ((i : Int) = 0) = false ∧ ¬ i = 0)), True := fun _ => trivial
            clear hgo hG1 hc
            rcases hex with ⟨rfl, hq⟩ | hq
            all_goals
              have hq' := decide_eq_false hq
              go_upto_region 14 with (fail)
              go_still_tail 13, (by kernel_rfl)
              change wpList _ _ _ _ _ wr.drew
              have hs1 := hsk.ext (Below.refl wr.heap.size wr).drew
              generalize wr.drew = w3 at *
              clear hsk r1 r2 r3 r4 x0 x1 y0 y1
              go_wp2_with (go_at_call 52; refine JR.StopY.out ?_)
              refine ⟨?_⟩
              refine (hgm _).mono ?_
              rintro e w4 ⟨rfl, hb⟩
              have hs2 := hs1.ext hb
              clear hb hs1 hgm
              cases hq2 : G _ k with
              | true =>
                have hGt := hG2.trans hq2
                rw [anyN_hit (show k - _ < n - _ by omega) hGt] at hF1
                have hz := anyN_hit hlt hF1
                rw [hz] at hans
                go_wp2
                go_ret
                exact ⟨by rw [← hans]; rfl, hs2.hb⟩
              | false =>
                have hstep := anyN_step hok (hG2.trans hq2)
                go_wp2
                go_simp
                refine ⟨⟨k + 1, by omega, .inl (by omega), by omega, ?_⟩, by simp only [intOf]; omega⟩
                exact (congrArg (anyN G') (by omega)).trans hstep
        · have hkk : k - (i + 2) = n - (i + 2) := by omega
          rw [hkk] at hok
          rw [hok] at hF1
          have hstep := anyN_step ho hF1
          have hge' : ¬ (k : Int) < (n : Int) := by omega
          have hB := hsk.hb
          clear hsk hG1 hgm hok
          go_wp2
          exact ⟨⟨i + 1, hlt, by go_num, hstep, hB⟩, by simp only [intOf]; omega⟩
    · obtain rfl : i = n := by omega
      rw [ho] at hans
      go_wp2
      go_ret
      exact ⟨by rw [← hans]; rfl, hst⟩
end Go.Proofs.YtcoeiimohkofjaaGreat
