import Derived.Test.YtcoeiimohkofjaaGreatYh
set_option linter.unusedSimpArgs false
set_option linter.unusedVariables false
/-! spec.IsScenePolygon, exactly (printed by gen/yi.py). -/
namespace PF
open Go Go.RowKit JR
/-- a slice is not longer than its room -/
def CapOk (v : Value) : Prop := ∀ A n c, v = .slice A n c → n ≤ c
theorem anyN_pre {F : Nat → Bool} {i j : Nat} (h : anyN F i = false) (hj : j < i) : F j = false := by
  cases hq : F j with
  | false => rfl
  | true => rw [anyN_hit hj hq] at h; cases h
end PF
namespace Go.Proofs.YtcoeiimohkofjaaGreat
open Go Go.RowKit PF JR
def scIn (H : List (List (Int × Int))) (i j : Nat) : Bool := srg (H.getD j []) (H.getD i []) || (decide (0 < rsd (H.getD j []) (at' (H.getD i []) 0)) || decide (0 < rsd (H.getD i []) (at' (H.getD j []) 0)))
def scBad (l : List (Int × Int)) (H : List (List (Int × Int))) (i : Nat) : Bool :=
  decide (6 < (H.getD i []).length) || (!simB (H.getD i []) || (srg l (H.getD i []) || (!decide (rsd l (at' (H.getD i []) 0) = 1) || anyN (scIn H i) i)))
/-- spec.IsScenePolygon -/
def scpB (l : List (Int × Int)) (H : List (List (Int × Int))) : Bool := simB l && (decide (H.length ≤ 2) && !anyN (scBad l H) H.length)
theorem sim_bs {l : List (Int × Int)} (h : simB l = true) : 3 ≤ l.length ∧ l.length ≤ 12 ∧ ∀ p ∈ l, okS p = true := by
  unfold simB iscB at h
  simp only [Bool.and_eq_true, decide_eq_true_eq, List.all_eq_true] at h
  exact ⟨h.1, h.2.1, fun p hp => h.2.2.1.2 p hp⟩
theorem okS_bs {p : Int × Int} (h : okS p = true) : Bs p := by
  have := of_decide_eq_true h
  unfold Bs; omega
set_option maxRecDepth 100000 in
set_option maxHeartbeats 8000000 in
theorem iscp_c (l : List (Int × Int)) (H : List (List (Int × Int))) (hl0 : l.length ≤ 9223372036854775807) (hH0 : ∀ k, (H.getD k []).length ≤ 9223372036854775807) (v vh : Value) (w : World) (hv : SlP w v l) (hvh : SlH w vh H) (hcap : CapOk vh) :
    Calls Tryz.prog 16 #[.agg #[v, vh]] w fun e w' => e = .returned (.bool (scpB l H)) ∧ Below w.heap.size w w' := by
  have hsi := fun u hu => sim_c l hl0 v u hu
  have hsH := fun i z u hu => sim_c (H.getD i []) (hH0 i) z u hu
  obtain ⟨A1, c1, rfl, -⟩ := id hv
  obtain ⟨A2, c2, rfl, hkH⟩ := id hvh
  have hc2 := hcap _ _ _ rfl
  have hatH := fun (k : Nat) (h : k < H.length) => SlH_at hkH h
  unfold scpB
  obtain ⟨ans, hans⟩ : ∃ q, (simB l && (decide (H.length ≤ 2) && !anyN (scBad l H) H.length)) = q := ⟨_, rfl⟩
  rw [hans]
  have st0 := (Blk.nil w).push rfl #[.slice A1 l.length c1, .slice A2 H.length c2] 25
  have hv0 := hv.below st0.hb
  cases hsl : simB l with
  | false =>
    rw [hsl, Bool.false_and] at hans
    simp only [hsl] at hsi
    subst hans
    clear hatH hkH hsH hv hvh
    generalize H.length = N at *
    generalize l.length = n1 at *
    go_enter Tryz.func16, Tryz.ntmps16
    go_wp2_with (go_at_call 24; refine JR.StopY.out ?_)
    refine ⟨?_⟩
    refine (hsi _ hv0).mono ?_
    rintro e w1 ⟨rfl, hb⟩
    have st1 := st0.ext hb
    go_wp2
    go_ret
    exact ⟨rfl, st1.hb⟩
  | true =>
  rw [hsl, Bool.true_and] at hans
  obtain ⟨h3, h12, hok⟩ := sim_bs hsl
  simp only [hsl] at hsi
  have hlb : ∀ p ∈ l, Bs p := fun p hp => okS_bs (hok p hp)
  by_cases hN : H.length ≤ 2
  case neg =>
    rw [decide_eq_false hN, Bool.false_and] at hans
    subst hans
    have d4 : (2 : Int) < (H.length : Int) := by omega
    have d4' := decide_eq_true d4
    clear hatH hkH hsH hv hvh hN hc2 hcap
    generalize H.length = N at *
    generalize l.length = n1 at *
    go_enter Tryz.func16, Tryz.ntmps16
    go_wp2_with (go_at_call 24; refine JR.StopY.out ?_)
    refine ⟨?_⟩
    refine (hsi _ hv0).mono ?_
    rintro e w1 ⟨rfl, hb⟩
    have st1 := st0.ext hb
    clear hb st0 hv0 hsi
    have x0 := st1.cell 0 rfl 0
    have x1 := st1.cell 0 rfl 1
    simp only [List.getElem?_toArray, List.getElem?_cons_zero, List.getElem?_cons_succ] at x0 x1
    go_wp2
    go_ret
    exact ⟨rfl, st1.hb⟩
  rw [decide_eq_true hN, Bool.true_and] at hans
  have d4 : ¬ (2 : Int) < (H.length : Int) := by omega
  have d4' := decide_eq_false d4
  obtain ⟨F, hF⟩ : ∃ F : Nat → Bool, scBad l H = F := ⟨_, rfl⟩
  have hF1 : ∀ i, F i = (decide (6 < (H.getD i []).length) || (!simB (H.getD i []) || (srg l (H.getD i []) || (!decide (rsd l (at' (H.getD i []) 0) = 1) || anyN (scIn H i) i)))) := fun i => by rw [← hF]; rfl
  rw [hF] at hans
  clear hF hkH hcap hok hN
  generalize H.length = N at *
  have hlen1 : l.length ≤ 900000000 := by omega
  generalize hn1 : l.length = n1 at *
  go_enter Tryz.func16, Tryz.ntmps16
  go_wp2_with (go_at_call 24; refine JR.StopY.out ?_)
  refine ⟨?_⟩
  refine (hsi _ hv0).mono ?_
  rintro e w1 ⟨rfl, hb⟩
  have st1 := st0.ext hb
  clear hb st0 hv0 hsi
  have x0 := st1.cell 0 rfl 0
  have x1 := st1.cell 0 rfl 1
  simp only [List.getElem?_toArray, List.getElem?_cons_zero, List.getElem?_cons_succ] at x0 x1
  go_wp2
  go_loopw [20] (fun q wr => ∃ i : Nat, i ≤ N ∧ q = .int .i64 i ∧ anyN F i = false ∧ Blk w wr [(w.heap.size, #[.slice A1 n1 c1, .slice A2 N c2], 25)]) (fun q _ => N - (intOf q).toNat)
  case atStart => exact ⟨0, Nat.zero_le _, rfl, rfl, st1⟩
  case round =>
    clear st1 x0 x1
    obtain ⟨i, hil, rfl, ho, hst⟩ := hrel
    rcases Nat.lt_or_ge i N with hlt | hge
    case inr =>
      obtain rfl : i = N := by omega
      rw [ho] at hans
      go_wp2
      go_ret
      exact ⟨by rw [← hans]; rfl, hst.hb⟩
    obtain ⟨bH, oH, vk, rfl, e1, hs⟩ := hatH i hlt
    have e1 := (hst.hb.cell (World.block_lt_of_cell? w _ e1)).trans e1
    have hFi := hF1 i
    have hsim := fun u hu => hsH i vk u hu
    have hpre : ∀ j, j < i → simB (H.getD j []) = true := fun j hj => by
      have h1 := anyN_pre ho hj
      rw [hF1 j] at h1
      simp only [Bool.or_eq_false_iff] at h1
      simpa using h1.2.1
    have hin : ∀ j, scIn H i j = (srg (H.getD j []) (H.getD i []) || (decide (0 < rsd (H.getD j []) (at' (H.getD i []) 0)) || decide (0 < rsd (H.getD i []) (at' (H.getD j []) 0)))) := fun j => rfl
    generalize hhl : H.getD i [] = hl at *
    obtain ⟨A3, c3, rfl, hk3⟩ := id hs
    have hlt' : (i : Int) < (N : Int) := by omega
    by_cases h6 : 6 < hl.length
    · rw [decide_eq_true h6, Bool.true_or] at hFi
      have hz := anyN_hit hlt hFi
      rw [hz] at hans
      replace hans : ans = false := hans.symm
      subst hans
      have d6 : (6 : Int) < (hl.length : Int) := by omega
      have d6' := decide_eq_true d6
      clear hsim hatH hin hpre hk3 h6
      generalize hl.length = n at *
      go_upto_region 6 with (fail)
      refine wp_region_K [] [.val (.slice A3 n c3), .val (.int .i64 (n : Nat)), .val (.bool true), .val (.bool true), .val (undef), .val (undef), .val (undef), .val (.bool true), .val (.bool true), .val (undef), .val (undef), .val (undef), .val (undef), .val (.bool true), .val (.bool true), .val (undef), .val (undef), .val (undef), .val (undef), .val (undef), .val (undef), .val (undef), .val (.bool true)]
        [[.ini 4], [.frm 0 25], [.frm 1 26], [.frm 2 27], [.frm 3 28, .ini 4], [.frm 3 28, .frm 4 29], [.frm 3 28, .frm 5 30], [.frm 3 28, .frm 6 31], [.frm 7 32], [.frm 8 33, .ini 1], [.frm 8 33, .frm 9 34], [.frm 8 33, .ini 4], [.frm 8 33, .frm 10 35, .frm 11 36], [.frm 8 33, .frm 12 37], [.frm 13 38], [.frm 14 39, .ini 1], [.frm 14 39, .frm 15 40], [.frm 14 39, .ini 4], [.frm 14 39, .frm 17 42], [.frm 14 39, .frm 18 43], [.frm 14 39, .frm 16 41, .frm 19 44], [.frm 14 39, .frm 20 45], [.frm 14 39, .frm 21 46]]
        mixed (by kernel_rfl) (by kernel_rfl) (allPre_of ⟨trivial, trivial, trivial, trivial, trivial, trivial, trivial, trivial, trivial, trivial, trivial, trivial, trivial, trivial, trivial, trivial, trivial, trivial, trivial, trivial, trivial, trivial, trivial, trivial⟩)
        ⟨OpOk.quiet rfl ?_, OpOk.quiet rfl ?_, OpOk.quiet rfl ?_, OpOk.quiet rfl ?_, sk rfl (by kernel_rfl) rfl, sk rfl (by kernel_rfl) rfl, sk rfl (by kernel_rfl) rfl, OpOk.quiet rfl ?_, OpOk.quiet rfl ?_, sk rfl (by kernel_rfl) rfl, sk rfl (by kernel_rfl) rfl, sk rfl (by kernel_rfl) rfl, sk rfl (by kernel_rfl) rfl, OpOk.quiet rfl ?_, OpOk.quiet rfl ?_, sk rfl (by kernel_rfl) rfl, sk rfl (by kernel_rfl) rfl, sk rfl (by kernel_rfl) rfl, sk rfl (by kernel_rfl) rfl, sk rfl (by kernel_rfl) rfl, sk rfl (by kernel_rfl) rfl, sk rfl (by kernel_rfl) rfl, OpOk.quiet rfl ?_, trivial⟩ ?_
      · intro a_ u _ hf
        simp [facts, Need.fact, Ent.val, Act.eval] at hf
        go_simp
      · intro a_ u _ hf
        simp [facts, Need.fact, Ent.val, Act.eval] at hf
        go_simp
      · intro a_ u _ hf
        simp [facts, Need.fact, Ent.val, Act.eval] at hf
        go_simp
      · intro a_ u _ hf
        simp [facts, Need.fact, Ent.val, Act.eval] at hf
        go_simp
      · intro a_ u _ hf
        simp [facts, Need.fact, Ent.val, Act.eval] at hf
        go_simp
      · intro a_ u _ hf
        simp [facts, Need.fact, Ent.val, Act.eval] at hf
        go_simp
      · intro a_ u _ hf
        simp [facts, Need.fact, Ent.val, Act.eval] at hf
        go_simp
      · intro a_ u _ hf
        simp [facts, Need.fact, Ent.val, Act.eval] at hf
        go_simp
      · intro a_ u _ hf
        simp [facts, Need.fact, Ent.val, Act.eval] at hf
        go_simp
      intro u lw hw w5 hKp hE hI hD
      simp only [allE, Ent.val] at hE
      obtain ⟨u0, u1, u2, u3, u4, u5, u6, u7, u8, u9, u10, u11, u12, u13, u14, u15, u16, u17, u18, u19, u20, u21, u22, -⟩ := hE
      simp only [Nat.reduceAdd] at u0 u1 u2 u3 u4 u5 u6 u7 u8 u9 u10 u11 u12 u13 u14 u15 u16 u17 u18 u19 u20 u21 u22
      simp only [allPut, Act.put, Nat.reduceAdd, u0, u1, u2, u3, u4, u5, u6, u7, u8, u9, u10, u11, u12, u13, u14, u15, u16, u17, u18, u19, u20, u21, u22]
      try simp only [List.setIfInBounds_toArray, List.set_cons_zero, List.set_cons_succ]
      clear hI hD u0 u1 u2 u3 u4 u5 u6 u7 u8 u9 u10 u11 u12 u13 u14 u15 u16 u17 u18 u19 u20 u21 u22
      have st5 := hst.keep0 hKp
      clear hKp hst
      go_wp2
      go_ret
      exact ⟨rfl, st5.hb⟩
    rw [decide_eq_false h6, Bool.false_or] at hFi
    have d6 : ¬ (6 : Int) < (hl.length : Int) := by omega
    have d6' := decide_eq_false d6
    cases hsb : simB hl with
    | false =>
      rw [hsb] at hFi
      have hz := anyN_hit hlt (hFi.trans rfl)
      rw [hz] at hans
      replace hans : ans = false := hans.symm
      subst hans
      simp only [hsb] at hsim
      clear hatH hin hpre hk3 h6
      generalize hl.length = n at *
      go_upto_region 6 with (fail)
      refine wp_region_K [] [.val (.slice A3 n c3), .val (.int .i64 (n : Nat)), .val (.bool false), .val (.bool false), .val (.slice A3 n c3), .val (.bool false), .val (.bool true), .val (.bool true), .val (.bool true), .val (undef), .val (undef), .val (undef), .val (undef), .val (.bool true), .val (.bool true), .val (undef), .val (undef), .val (undef), .val (undef), .val (undef), .val (undef), .val (undef), .val (.bool true)]
        [[.ini 4], [.frm 0 25], [.frm 1 26], [.frm 2 27], [.frm 3 28, .ini 4], [.frm 3 28, .frm 4 29], [.frm 3 28, .frm 5 30], [.frm 3 28, .frm 6 31], [.frm 7 32], [.frm 8 33, .ini 1], [.frm 8 33, .frm 9 34], [.frm 8 33, .ini 4], [.frm 8 33, .frm 10 35, .frm 11 36], [.frm 8 33, .frm 12 37], [.frm 13 38], [.frm 14 39, .ini 1], [.frm 14 39, .frm 15 40], [.frm 14 39, .ini 4], [.frm 14 39, .frm 17 42], [.frm 14 39, .frm 18 43], [.frm 14 39, .frm 16 41, .frm 19 44], [.frm 14 39, .frm 20 45], [.frm 14 39, .frm 21 46]]
        mixed (by kernel_rfl) (by kernel_rfl) (allPre_of ⟨trivial, trivial, trivial, trivial, trivial, trivial, trivial, trivial, trivial, trivial, trivial, trivial, trivial, trivial, trivial, trivial, trivial, trivial, trivial, trivial, trivial, trivial, trivial, trivial⟩)
        ⟨OpOk.quiet rfl ?_, OpOk.quiet rfl ?_, OpOk.quiet rfl ?_, OpOk.quiet rfl ?_, qt rfl (by kernel_rfl) rfl ?_, OpOk.callG rfl (by kernel_rfl) (gd rfl) ?_, qt rfl (by kernel_rfl) rfl ?_, OpOk.quiet rfl ?_, OpOk.quiet rfl ?_, sk rfl (by kernel_rfl) rfl, sk rfl (by kernel_rfl) rfl, sk rfl (by kernel_rfl) rfl, sk rfl (by kernel_rfl) rfl, OpOk.quiet rfl ?_, OpOk.quiet rfl ?_, sk rfl (by kernel_rfl) rfl, sk rfl (by kernel_rfl) rfl, sk rfl (by kernel_rfl) rfl, sk rfl (by kernel_rfl) rfl, sk rfl (by kernel_rfl) rfl, sk rfl (by kernel_rfl) rfl, sk rfl (by kernel_rfl) rfl, OpOk.quiet rfl ?_, trivial⟩ ?_
      · intro a_ u _ hf
        simp [facts, Need.fact, Ent.val, Act.eval] at hf
        go_simp
      · intro a_ u _ hf
        simp [facts, Need.fact, Ent.val, Act.eval] at hf
        go_simp
      · intro a_ u _ hf
        simp [facts, Need.fact, Ent.val, Act.eval] at hf
        go_simp
      · intro a_ u _ hf
        simp [facts, Need.fact, Ent.val, Act.eval] at hf
        go_simp
      · intro a_ u _ hf
        simp [facts, Need.fact, Ent.val, Act.eval] at hf
        go_simp
      · intro a_ u hG hf
        simp [facts, Need.fact, Ent.val, Act.eval] at hf
        have hb5 := hG.below
        refine ⟨_, _, by go_simp, (hsim u (hs.below (hst.hb.trans (hb5.mono hst.hb.size)))).mono ?_⟩
        rintro e w' ⟨rfl, hb⟩
        exact ⟨_, rfl, hb, rfl⟩
      · intro a_ u _ hf
        simp [facts, Need.fact, Ent.val, Act.eval] at hf
        go_simp
      · intro a_ u _ hf
        simp [facts, Need.fact, Ent.val, Act.eval] at hf
        go_simp
      · intro a_ u _ hf
        simp [facts, Need.fact, Ent.val, Act.eval] at hf
        go_simp
      · intro a_ u _ hf
        simp [facts, Need.fact, Ent.val, Act.eval] at hf
        go_simp
      · intro a_ u _ hf
        simp [facts, Need.fact, Ent.val, Act.eval] at hf
        go_simp
      · intro a_ u _ hf
        simp [facts, Need.fact, Ent.val, Act.eval] at hf
        go_simp
      intro u lw hw w5 hKp hE hI hD
      simp only [allE, Ent.val] at hE
      obtain ⟨u0, u1, u2, u3, u4, u5, u6, u7, u8, u9, u10, u11, u12, u13, u14, u15, u16, u17, u18, u19, u20, u21, u22, -⟩ := hE
      simp only [Nat.reduceAdd] at u0 u1 u2 u3 u4 u5 u6 u7 u8 u9 u10 u11 u12 u13 u14 u15 u16 u17 u18 u19 u20 u21 u22
      simp only [allPut, Act.put, Nat.reduceAdd, u0, u1, u2, u3, u4, u5, u6, u7, u8, u9, u10, u11, u12, u13, u14, u15, u16, u17, u18, u19, u20, u21, u22]
      try simp only [List.setIfInBounds_toArray, List.set_cons_zero, List.set_cons_succ]
      clear hI hD u0 u1 u2 u3 u4 u5 u6 u7 u8 u9 u10 u11 u12 u13 u14 u15 u16 u17 u18 u19 u20 u21 u22
      have st5 := hst.keep0 hKp
      clear hKp hst
      go_wp2
      go_ret
      exact ⟨rfl, st5.hb⟩
    | true =>
    rw [hsb, Bool.not_true, Bool.false_or] at hFi
    simp only [hsb] at hsim
    obtain ⟨g3, g12, gok⟩ := sim_bs hsb
    have hhb : ∀ p ∈ hl, Bs p := fun p hp => okS_bs (gok p hp)
    obtain ⟨bh, oh, rfl, r1, r2⟩ := hk3 0 _ (at_get (by omega))
    have hsrg := fun u hu hu2 => srg_c l hl hlb hhb (by omega) (by omega) (.slice A1 n1 c1) (.slice (some ⟨bh, oh, none⟩) hl.length c3) u hu hu2
    have hrsd := fun u hu => rsd_c l hlb (at_bs hhb 0) (by omega) (.slice A1 n1 c1) u hu
    have hp0b := at_bs hhb 0
    simp only [Nat.zero_mul, Nat.add_zero] at r1 r2
    have r10 := r1
    have r20 := r2
    have r1 := (hst.hb.cell (World.block_lt_of_cell? w _ r1)).trans r1
    have r2 := (hst.hb.cell (World.block_lt_of_cell? w _ r2)).trans r2
    have hlen2 : hl.length ≤ 900000000 := by omega
    have hpos : 0 < hl.length := by omega
    have hpos' : (0 : Int) < (hl.length : Int) := by omega
    generalize hp0 : at' hl 0 = p0 at *
    cases hsr : srg l hl with
    | true =>
      rw [hsr, Bool.true_or] at hFi
      have hz := anyN_hit hlt hFi
      rw [hz] at hans
      replace hans : ans = false := hans.symm
      subst hans
      simp only [hsr] at hsrg
      clear hatH hin hpre hk3 h6 hrsd
      generalize hl.length = n at *
      go_upto_region 6 with (fail)
      refine wp_region_K [] [.val (.slice (some ⟨bh, oh, none⟩) n c3), .val (.int .i64 (n : Nat)), .val (.bool false), .val (.bool false), .val (.slice (some ⟨bh, oh, none⟩) n c3), .val (.bool true), .val (.bool false), .val (.bool false), .val (.bool false), .val (.pointer (some ⟨w.heap.size, 0, none⟩)), .val (.slice A1 n1 c1), .val (.slice (some ⟨bh, oh, none⟩) n c3), .val (.bool true), .val (.bool true), .val (.bool true), .val (undef), .val (undef), .val (undef), .val (undef), .val (undef), .val (undef), .val (undef), .val (.bool true)]
        [[.ini 4], [.frm 0 25], [.frm 1 26], [.frm 2 27], [.frm 3 28, .ini 4], [.frm 3 28, .frm 4 29], [.frm 3 28, .frm 5 30], [.frm 3 28, .frm 6 31], [.frm 7 32], [.frm 8 33, .ini 1], [.frm 8 33, .frm 9 34], [.frm 8 33, .ini 4], [.frm 8 33, .frm 10 35, .frm 11 36], [.frm 8 33, .frm 12 37], [.frm 13 38], [.frm 14 39, .ini 1], [.frm 14 39, .frm 15 40], [.frm 14 39, .ini 4], [.frm 14 39, .frm 17 42], [.frm 14 39, .frm 18 43], [.frm 14 39, .frm 16 41, .frm 19 44], [.frm 14 39, .frm 20 45], [.frm 14 39, .frm 21 46]]
        mixed (by kernel_rfl) (by kernel_rfl) (allPre_of ⟨trivial, trivial, trivial, trivial, trivial, trivial, trivial, trivial, trivial, trivial, trivial, trivial, trivial, trivial, trivial, trivial, trivial, trivial, trivial, trivial, trivial, trivial, trivial, trivial⟩)
        ⟨OpOk.quiet rfl ?_, OpOk.quiet rfl ?_, OpOk.quiet rfl ?_, OpOk.quiet rfl ?_, qt rfl (by kernel_rfl) rfl ?_, OpOk.callG rfl (by kernel_rfl) (gd rfl) ?_, qt rfl (by kernel_rfl) rfl ?_, OpOk.quiet rfl ?_, OpOk.quiet rfl ?_, qt rfl (by kernel_rfl) rfl ?_, qt rfl (by kernel_rfl) rfl ?_, qt rfl (by kernel_rfl) rfl ?_, OpOk.callG rfl (by kernel_rfl) (gd rfl) ?_, OpOk.quiet rfl ?_, OpOk.quiet rfl ?_, sk rfl (by kernel_rfl) rfl, sk rfl (by kernel_rfl) rfl, sk rfl (by kernel_rfl) rfl, sk rfl (by kernel_rfl) rfl, sk rfl (by kernel_rfl) rfl, sk rfl (by kernel_rfl) rfl, sk rfl (by kernel_rfl) rfl, OpOk.quiet rfl ?_, trivial⟩ ?_
      · intro a_ u _ hf
        simp [facts, Need.fact, Ent.val, Act.eval] at hf
        go_simp
      · intro a_ u _ hf
        simp [facts, Need.fact, Ent.val, Act.eval] at hf
        go_simp
      · intro a_ u _ hf
        simp [facts, Need.fact, Ent.val, Act.eval] at hf
        go_simp
      · intro a_ u _ hf
        simp [facts, Need.fact, Ent.val, Act.eval] at hf
        go_simp
      · intro a_ u _ hf
        simp [facts, Need.fact, Ent.val, Act.eval] at hf
        go_simp
      · intro a_ u hG hf
        simp [facts, Need.fact, Ent.val, Act.eval] at hf
        have hb5 := hG.below
        refine ⟨_, _, by go_simp, (hsim u (hs.below (hst.hb.trans (hb5.mono hst.hb.size)))).mono ?_⟩
        rintro e w' ⟨rfl, hb⟩
        exact ⟨_, rfl, hb, rfl⟩
      · intro a_ u _ hf
        simp [facts, Need.fact, Ent.val, Act.eval] at hf
        go_simp
      · intro a_ u _ hf
        simp [facts, Need.fact, Ent.val, Act.eval] at hf
        go_simp
      · intro a_ u _ hf
        simp [facts, Need.fact, Ent.val, Act.eval] at hf
        go_simp
      · intro a_ u _ hf
        simp [facts, Need.fact, Ent.val, Act.eval] at hf
        go_simp
      · intro a_ u hG hf
        simp [facts, Need.fact, Ent.val, Act.eval] at hf
        obtain ⟨y0, y1⟩ := hst.k2 hG 0 rfl
        go_simp
      · intro a_ u _ hf
        simp [facts, Need.fact, Ent.val, Act.eval] at hf
        go_simp
      · intro a_ u hG hf
        simp [facts, Need.fact, Ent.val, Act.eval] at hf
        have hb5 := hG.below
        refine ⟨_, _, by go_simp, (hsrg u (hv.below (hst.hb.trans (hb5.mono hst.hb.size))) (hs.below (hst.hb.trans (hb5.mono hst.hb.size)))).mono ?_⟩
        rintro e w' ⟨rfl, hb⟩
        exact ⟨_, rfl, hb, rfl⟩
      · intro a_ u _ hf
        simp [facts, Need.fact, Ent.val, Act.eval] at hf
        go_simp
      · intro a_ u _ hf
        simp [facts, Need.fact, Ent.val, Act.eval] at hf
        go_simp
      · intro a_ u _ hf
        simp [facts, Need.fact, Ent.val, Act.eval] at hf
        go_simp
      intro u lw hw w5 hKp hE hI hD
      simp only [allE, Ent.val] at hE
      obtain ⟨u0, u1, u2, u3, u4, u5, u6, u7, u8, u9, u10, u11, u12, u13, u14, u15, u16, u17, u18, u19, u20, u21, u22, -⟩ := hE
      simp only [Nat.reduceAdd] at u0 u1 u2 u3 u4 u5 u6 u7 u8 u9 u10 u11 u12 u13 u14 u15 u16 u17 u18 u19 u20 u21 u22
      simp only [allPut, Act.put, Nat.reduceAdd, u0, u1, u2, u3, u4, u5, u6, u7, u8, u9, u10, u11, u12, u13, u14, u15, u16, u17, u18, u19, u20, u21, u22]
      try simp only [List.setIfInBounds_toArray, List.set_cons_zero, List.set_cons_succ]
      clear hI hD u0 u1 u2 u3 u4 u5 u6 u7 u8 u9 u10 u11 u12 u13 u14 u15 u16 u17 u18 u19 u20 u21 u22
      have st5 := hst.keep0 hKp
      clear hKp hst
      go_wp2
      go_ret
      exact ⟨rfl, st5.hb⟩
    | false =>
    rw [hsr, Bool.false_or] at hFi
    simp only [hsr] at hsrg
    generalize hr : rsd l p0 = r at *
    by_cases hr1 : r = 1
    case neg =>
      rw [decide_eq_false hr1, Bool.not_false, Bool.true_or] at hFi
      have hz := anyN_hit hlt hFi
      rw [hz] at hans
      replace hans : ans = false := hans.symm
      subst hans
      clear hatH hin hpre hk3 h6
      generalize hl.length = n at *
      go_upto_region 6 with (fail)
      refine wp_region_K [] [.val (.slice (some ⟨bh, oh, none⟩) n c3), .val (.int .i64 (n : Nat)), .val (.bool false), .val (.bool false), .val (.slice (some ⟨bh, oh, none⟩) n c3), .val (.bool true), .val (.bool false), .val (.bool false), .val (.bool false), .val (.pointer (some ⟨w.heap.size, 0, none⟩)), .val (.slice A1 n1 c1), .val (.slice (some ⟨bh, oh, none⟩) n c3), .val (.bool false), .val (.bool false), .val (.bool false), .val (.pointer (some ⟨w.heap.size, 0, none⟩)), .val (.slice A1 n1 c1), .val (.slice (some ⟨bh, oh, none⟩) n c3), .val (.pointer (some ⟨bh, oh, none⟩)), .val (.agg #[.int .i64 p0.1, .int .i64 p0.2]), .val (.int .i64 r), .val (.bool true), .val (.bool true)]
        [[.ini 4], [.frm 0 25], [.frm 1 26], [.frm 2 27], [.frm 3 28, .ini 4], [.frm 3 28, .frm 4 29], [.frm 3 28, .frm 5 30], [.frm 3 28, .frm 6 31], [.frm 7 32], [.frm 8 33, .ini 1], [.frm 8 33, .frm 9 34], [.frm 8 33, .ini 4], [.frm 8 33, .frm 10 35, .frm 11 36], [.frm 8 33, .frm 12 37], [.frm 13 38], [.frm 14 39, .ini 1], [.frm 14 39, .frm 15 40], [.frm 14 39, .ini 4], [.frm 14 39, .frm 17 42], [.frm 14 39, .frm 18 43], [.frm 14 39, .frm 16 41, .frm 19 44], [.frm 14 39, .frm 20 45], [.frm 14 39, .frm 21 46]]
        mixed (by kernel_rfl) (by kernel_rfl) (allPre_of ⟨trivial, trivial, trivial, trivial, trivial, trivial, trivial, trivial, trivial, trivial, trivial, trivial, trivial, trivial, trivial, trivial, trivial, trivial, trivial, trivial, trivial, trivial, trivial, trivial⟩)
        ⟨OpOk.quiet rfl ?_, OpOk.quiet rfl ?_, OpOk.quiet rfl ?_, OpOk.quiet rfl ?_, qt rfl (by kernel_rfl) rfl ?_, OpOk.callG rfl (by kernel_rfl) (gd rfl) ?_, qt rfl (by kernel_rfl) rfl ?_, OpOk.quiet rfl ?_, OpOk.quiet rfl ?_, qt rfl (by kernel_rfl) rfl ?_, qt rfl (by kernel_rfl) rfl ?_, qt rfl (by kernel_rfl) rfl ?_, OpOk.callG rfl (by kernel_rfl) (gd rfl) ?_, OpOk.quiet rfl ?_, OpOk.quiet rfl ?_, qt rfl (by kernel_rfl) rfl ?_, qt rfl (by kernel_rfl) rfl ?_, qt rfl (by kernel_rfl) rfl ?_, qt rfl (by kernel_rfl) rfl ?_, qt rfl (by kernel_rfl) rfl ?_, OpOk.callG rfl (by kernel_rfl) (gd rfl) ?_, qt rfl (by kernel_rfl) rfl ?_, OpOk.quiet rfl ?_, trivial⟩ ?_
      · intro a_ u _ hf
        simp [facts, Need.fact, Ent.val, Act.eval] at hf
        go_simp
      · intro a_ u _ hf
        simp [facts, Need.fact, Ent.val, Act.eval] at hf
        go_simp
      · intro a_ u _ hf
        simp [facts, Need.fact, Ent.val, Act.eval] at hf
        go_simp
      · intro a_ u _ hf
        simp [facts, Need.fact, Ent.val, Act.eval] at hf
        go_simp
      · intro a_ u _ hf
        simp [facts, Need.fact, Ent.val, Act.eval] at hf
        go_simp
      · intro a_ u hG hf
        simp [facts, Need.fact, Ent.val, Act.eval] at hf
        have hb5 := hG.below
        refine ⟨_, _, by go_simp, (hsim u (hs.below (hst.hb.trans (hb5.mono hst.hb.size)))).mono ?_⟩
        rintro e w' ⟨rfl, hb⟩
        exact ⟨_, rfl, hb, rfl⟩
      · intro a_ u _ hf
        simp [facts, Need.fact, Ent.val, Act.eval] at hf
        go_simp
      · intro a_ u _ hf
        simp [facts, Need.fact, Ent.val, Act.eval] at hf
        go_simp
      · intro a_ u _ hf
        simp [facts, Need.fact, Ent.val, Act.eval] at hf
        go_simp
      · intro a_ u _ hf
        simp [facts, Need.fact, Ent.val, Act.eval] at hf
        go_simp
      · intro a_ u hG hf
        simp [facts, Need.fact, Ent.val, Act.eval] at hf
        obtain ⟨y0, y1⟩ := hst.k2 hG 0 rfl
        go_simp
      · intro a_ u _ hf
        simp [facts, Need.fact, Ent.val, Act.eval] at hf
        go_simp
      · intro a_ u hG hf
        simp [facts, Need.fact, Ent.val, Act.eval] at hf
        have hb5 := hG.below
        refine ⟨_, _, by go_simp, (hsrg u (hv.below (hst.hb.trans (hb5.mono hst.hb.size))) (hs.below (hst.hb.trans (hb5.mono hst.hb.size)))).mono ?_⟩
        rintro e w' ⟨rfl, hb⟩
        exact ⟨_, rfl, hb, rfl⟩
      · intro a_ u _ hf
        simp [facts, Need.fact, Ent.val, Act.eval] at hf
        go_simp
      · intro a_ u _ hf
        simp [facts, Need.fact, Ent.val, Act.eval] at hf
        go_simp
      · intro a_ u _ hf
        simp [facts, Need.fact, Ent.val, Act.eval] at hf
        go_simp
      · intro a_ u hG hf
        simp [facts, Need.fact, Ent.val, Act.eval] at hf
        obtain ⟨y0, y1⟩ := hst.k2 hG 0 rfl
        go_simp
      · intro a_ u _ hf
        simp [facts, Need.fact, Ent.val, Act.eval] at hf
        go_simp
      · intro a_ u _ hf
        simp [facts, Need.fact, Ent.val, Act.eval] at hf
        go_simp
      · intro a_ u hG hf
        simp [facts, Need.fact, Ent.val, Act.eval] at hf
        have q1 := (hG.cell (World.block_lt_of_cell? _ _ r1) (by simp)).trans r1
        have q2 := (hG.cell (World.block_lt_of_cell? _ _ r2) (by simp)).trans r2
        go_simp
      · intro a_ u hG hf
        simp [facts, Need.fact, Ent.val, Act.eval] at hf
        have hb5 := hG.below
        refine ⟨_, _, by go_simp, (hrsd u (hv.below (hst.hb.trans (hb5.mono hst.hb.size)))).mono ?_⟩
        rintro e w' ⟨rfl, hb⟩
        exact ⟨_, rfl, hb, rfl⟩
      · intro a_ u _ hf
        simp [facts, Need.fact, Ent.val, Act.eval] at hf
        go_simp
      · intro a_ u _ hf
        simp [facts, Need.fact, Ent.val, Act.eval] at hf
        go_simp
      intro u lw hw w5 hKp hE hI hD
      simp only [allE, Ent.val] at hE
      obtain ⟨u0, u1, u2, u3, u4, u5, u6, u7, u8, u9, u10, u11, u12, u13, u14, u15, u16, u17, u18, u19, u20, u21, u22, -⟩ := hE
      simp only [Nat.reduceAdd] at u0 u1 u2 u3 u4 u5 u6 u7 u8 u9 u10 u11 u12 u13 u14 u15 u16 u17 u18 u19 u20 u21 u22
      simp only [allPut, Act.put, Nat.reduceAdd, u0, u1, u2, u3, u4, u5, u6, u7, u8, u9, u10, u11, u12, u13, u14, u15, u16, u17, u18, u19, u20, u21, u22]
      try simp only [List.setIfInBounds_toArray, List.set_cons_zero, List.set_cons_succ]
      clear hI hD u0 u1 u2 u3 u4 u5 u6 u7 u8 u9 u10 u11 u12 u13 u14 u15 u16 u17 u18 u19 u20 u21 u22
      have st5 := hst.keep0 hKp
      clear hKp hst
      go_wp2
      go_ret
      exact ⟨rfl, st5.hb⟩
    rw [decide_eq_true hr1, Bool.not_true, Bool.false_or] at hFi
    subst hr1
    generalize hnl : hl.length = n at *
    have hic : i ≤ c2 := by omega
    go_upto_region 6 with (fail)
    refine wp_region_K [] [.val (.slice (some ⟨bh, oh, none⟩) n c3), .val (.int .i64 (n : Nat)), .val (.bool false), .val (.bool false), .val (.slice (some ⟨bh, oh, none⟩) n c3), .val (.bool true), .val (.bool false), .val (.bool false), .val (.bool false), .val (.pointer (some ⟨w.heap.size, 0, none⟩)), .val (.slice A1 n1 c1), .val (.slice (some ⟨bh, oh, none⟩) n c3), .val (.bool false), .val (.bool false), .val (.bool false), .val (.pointer (some ⟨w.heap.size, 0, none⟩)), .val (.slice A1 n1 c1), .val (.slice (some ⟨bh, oh, none⟩) n c3), .val (.pointer (some ⟨bh, oh, none⟩)), .val (.agg #[.int .i64 p0.1, .int .i64 p0.2]), .val (.int .i64 1), .val (.bool false), .val (.bool false)]
      [[.ini 4], [.frm 0 25], [.frm 1 26], [.frm 2 27], [.frm 3 28, .ini 4], [.frm 3 28, .frm 4 29], [.frm 3 28, .frm 5 30], [.frm 3 28, .frm 6 31], [.frm 7 32], [.frm 8 33, .ini 1], [.frm 8 33, .frm 9 34], [.frm 8 33, .ini 4], [.frm 8 33, .frm 10 35, .frm 11 36], [.frm 8 33, .frm 12 37], [.frm 13 38], [.frm 14 39, .ini 1], [.frm 14 39, .frm 15 40], [.frm 14 39, .ini 4], [.frm 14 39, .frm 17 42], [.frm 14 39, .frm 18 43], [.frm 14 39, .frm 16 41, .frm 19 44], [.frm 14 39, .frm 20 45], [.frm 14 39, .frm 21 46]]
      mixed (by kernel_rfl) (by kernel_rfl) (allPre_of ⟨trivial, trivial, trivial, trivial, trivial, trivial, trivial, trivial, trivial, trivial, trivial, trivial, trivial, trivial, trivial, trivial, trivial, trivial, trivial, trivial, trivial, trivial, trivial, trivial⟩)
      ⟨OpOk.quiet rfl ?_, OpOk.quiet rfl ?_, OpOk.quiet rfl ?_, OpOk.quiet rfl ?_, qt rfl (by kernel_rfl) rfl ?_, OpOk.callG rfl (by kernel_rfl) (gd rfl) ?_, qt rfl (by kernel_rfl) rfl ?_, OpOk.quiet rfl ?_, OpOk.quiet rfl ?_, qt rfl (by kernel_rfl) rfl ?_, qt rfl (by kernel_rfl) rfl ?_, qt rfl (by kernel_rfl) rfl ?_, OpOk.callG rfl (by kernel_rfl) (gd rfl) ?_, OpOk.quiet rfl ?_, OpOk.quiet rfl ?_, qt rfl (by kernel_rfl) rfl ?_, qt rfl (by kernel_rfl) rfl ?_, qt rfl (by kernel_rfl) rfl ?_, qt rfl (by kernel_rfl) rfl ?_, qt rfl (by kernel_rfl) rfl ?_, OpOk.callG rfl (by kernel_rfl) (gd rfl) ?_, qt rfl (by kernel_rfl) rfl ?_, OpOk.quiet rfl ?_, trivial⟩ ?_
    · intro a_ u _ hf
      simp [facts, Need.fact, Ent.val, Act.eval] at hf
      go_simp
    · intro a_ u _ hf
      simp [facts, Need.fact, Ent.val, Act.eval] at hf
      go_simp
    · intro a_ u _ hf
      simp [facts, Need.fact, Ent.val, Act.eval] at hf
      go_simp
    · intro a_ u _ hf
      simp [facts, Need.fact, Ent.val, Act.eval] at hf
      go_simp
    · intro a_ u _ hf
      simp [facts, Need.fact, Ent.val, Act.eval] at hf
      go_simp
    · intro a_ u hG hf
      simp [facts, Need.fact, Ent.val, Act.eval] at hf
      have hb5 := hG.below
      refine ⟨_, _, by go_simp, (hsim u (hs.below (hst.hb.trans (hb5.mono hst.hb.size)))).mono ?_⟩
      rintro e w' ⟨rfl, hb⟩
      exact ⟨_, rfl, hb, rfl⟩
    · intro a_ u _ hf
      simp [facts, Need.fact, Ent.val, Act.eval] at hf
      go_simp
    · intro a_ u _ hf
      simp [facts, Need.fact, Ent.val, Act.eval] at hf
      go_simp
    · intro a_ u _ hf
      simp [facts, Need.fact, Ent.val, Act.eval] at hf
      go_simp
    · intro a_ u _ hf
      simp [facts, Need.fact, Ent.val, Act.eval] at hf
      go_simp
    · intro a_ u hG hf
      simp [facts, Need.fact, Ent.val, Act.eval] at hf
      obtain ⟨y0, y1⟩ := hst.k2 hG 0 rfl
      go_simp
    · intro a_ u _ hf
      simp [facts, Need.fact, Ent.val, Act.eval] at hf
      go_simp
    · intro a_ u hG hf
      simp [facts, Need.fact, Ent.val, Act.eval] at hf
      have hb5 := hG.below
      refine ⟨_, _, by go_simp, (hsrg u (hv.below (hst.hb.trans (hb5.mono hst.hb.size))) (hs.below (hst.hb.trans (hb5.mono hst.hb.size)))).mono ?_⟩
      rintro e w' ⟨rfl, hb⟩
      exact ⟨_, rfl, hb, rfl⟩
    · intro a_ u _ hf
      simp [facts, Need.fact, Ent.val, Act.eval] at hf
      go_simp
    · intro a_ u _ hf
      simp [facts, Need.fact, Ent.val, Act.eval] at hf
      go_simp
    · intro a_ u _ hf
      simp [facts, Need.fact, Ent.val, Act.eval] at hf
      go_simp
    · intro a_ u hG hf
      simp [facts, Need.fact, Ent.val, Act.eval] at hf
      obtain ⟨y0, y1⟩ := hst.k2 hG 0 rfl
      go_simp
    · intro a_ u _ hf
      simp [facts, Need.fact, Ent.val, Act.eval] at hf
      go_simp
    · intro a_ u _ hf
      simp [facts, Need.fact, Ent.val, Act.eval] at hf
      go_simp
    · intro a_ u hG hf
      simp [facts, Need.fact, Ent.val, Act.eval] at hf
      have q1 := (hG.cell (World.block_lt_of_cell? _ _ r1) (by simp)).trans r1
      have q2 := (hG.cell (World.block_lt_of_cell? _ _ r2) (by simp)).trans r2
      go_simp
    · intro a_ u hG hf
      simp [facts, Need.fact, Ent.val, Act.eval] at hf
      have hb5 := hG.below
      refine ⟨_, _, by go_simp, (hrsd u (hv.below (hst.hb.trans (hb5.mono hst.hb.size)))).mono ?_⟩
      rintro e w' ⟨rfl, hb⟩
      exact ⟨_, rfl, hb, rfl⟩
    · intro a_ u _ hf
      simp [facts, Need.fact, Ent.val, Act.eval] at hf
      go_simp
    · intro a_ u _ hf
      simp [facts, Need.fact, Ent.val, Act.eval] at hf
      go_simp
    intro u lw hw w5 hKp hE hI hD
    simp only [allE, Ent.val] at hE
    obtain ⟨u0, u1, u2, u3, u4, u5, u6, u7, u8, u9, u10, u11, u12, u13, u14, u15, u16, u17, u18, u19, u20, u21, u22, -⟩ := hE
    simp only [Nat.reduceAdd] at u0 u1 u2 u3 u4 u5 u6 u7 u8 u9 u10 u11 u12 u13 u14 u15 u16 u17 u18 u19 u20 u21 u22
    simp only [allPut, Act.put, Nat.reduceAdd, u0, u1, u2, u3, u4, u5, u6, u7, u8, u9, u10, u11, u12, u13, u14, u15, u16, u17, u18, u19, u20, u21, u22]
    try simp only [List.setIfInBounds_toArray, List.set_cons_zero, List.set_cons_succ]
    clear hI hD u0 u1 u2 u3 u4 u5 u6 u7 u8 u9 u10 u11 u12 u13 u14 u15 u16 u17 u18 u19 u20 u21 u22
    have st5 := hst.keep0 hKp
    clear hKp hst hsim hsrg hrsd r1 r2
    have x0 := st5.cell 0 rfl 0
    have x1 := st5.cell 0 rfl 1
    simp only [List.getElem?_toArray, List.getElem?_cons_zero, List.getElem?_cons_succ] at x0 x1
    go_wp2
    go_loopw [53] (fun q wr => ∃ j : Nat, j ≤ i ∧ q = .int .i64 j ∧ anyN (scIn H i) j = false ∧ Blk w wr [(w.heap.size, #[.slice A1 n1 c1, .slice (some ⟨bH, oH, none⟩) N c2], 25)]) (fun q _ => i - (intOf q).toNat)
    case atStart => exact ⟨0, Nat.zero_le _, rfl, rfl, st5⟩
    case round =>
      clear st5 x0 x1
      obtain ⟨j, hji, rfl, hoj, hsj⟩ := hrel
      rcases Nat.lt_or_ge j i with hjl | hjg
      · obtain ⟨bH', oH', vo, hbo, s1, hso⟩ := hatH j (by omega)
        cases hbo
        have s1 := (hsj.hb.cell (World.block_lt_of_cell? w _ s1)).trans s1
        have hij := hin j
        obtain ⟨k3, k12, kok⟩ := sim_bs (hpre j hjl)
        generalize H.getD j [] = o at *
        have hob : ∀ p ∈ o, Bs p := fun p hp => okS_bs (kok p hp)
        have hjl' : (j : Int) < (i : Int) := by omega
        obtain ⟨A4, c4, rfl, hk4⟩ := id hso
        obtain ⟨b4, o4, rfl, t1, t2⟩ := hk4 0 _ (at_get (by omega))
        simp only [Nat.zero_mul, Nat.add_zero] at t1 t2
        have q1 := fun u hu hu2 => srg_c o hl hob hhb (by omega) (by omega) (.slice (some ⟨b4, o4, none⟩) o.length c4) (.slice (some ⟨bh, oh, none⟩) n c3) u hu hu2
        have q2 := fun u hu => rsd_c o hob hp0b (by omega) (.slice (some ⟨b4, o4, none⟩) o.length c4) u hu
        have q3 := fun u hu => rsd_c hl hhb (at_bs hob 0) (by omega) (.slice (some ⟨bh, oh, none⟩) n c3) u hu
        generalize at' o 0 = po at *
        have hopos : 0 < o.length := by omega
        have hopos' : (0 : Int) < (o.length : Int) := by omega
        generalize hno : o.length = m at *
        clear hk4
        go_wp2_with (go_at_call 40; refine JR.StopY.out ?_)
        refine ⟨?_⟩
        refine (q1 _ (hso.below hsj.hb) (hs.below hsj.hb)).mono ?_
        rintro e w6 ⟨rfl, hb⟩
        have s2 := hsj.ext hb
        clear hb hsj q1 s1
        cases hc1 : srg o hl with
        | true =>
          rw [hc1, Bool.true_or] at hij
          rw [anyN_hit hjl hij] at hFi
          have hz := anyN_hit hlt hFi
          rw [hz] at hans
          replace hans : ans = false := hans.symm
          subst hans
          go_wp2
          go_ret
          exact ⟨rfl, s2.hb⟩
        | false =>
        rw [hc1, Bool.false_or] at hij
        have y1 := (s2.hb.cell (World.block_lt_of_cell? w _ r10)).trans r10
        have y2 := (s2.hb.cell (World.block_lt_of_cell? w _ r20)).trans r20
        go_wp2_with (go_at_call 32; refine JR.StopY.out ?_)
        refine ⟨?_⟩
        refine (q2 _ (hso.below s2.hb)).mono ?_
        rintro e w7 ⟨rfl, hb⟩
        have s3 := s2.ext hb
        clear hb s2 q2 y1 y2
        generalize rsd o p0 = g1 at *
        by_cases hg1 : 0 < g1
        · rw [decide_eq_true hg1, Bool.true_or] at hij
          rw [anyN_hit hjl hij] at hFi
          have hz := anyN_hit hlt hFi
          rw [hz] at hans
          replace hans : ans = false := hans.symm
          subst hans
          have hg1' := decide_eq_true hg1
          go_wp2
          go_ret
          exact ⟨rfl, s3.hb⟩
        rw [decide_eq_false hg1, Bool.false_or] at hij
        have hg1' := decide_eq_false hg1
        have y1 := (s3.hb.cell (World.block_lt_of_cell? w _ t1)).trans t1
        have y2 := (s3.hb.cell (World.block_lt_of_cell? w _ t2)).trans t2
        go_wp2_with (go_at_call 32; refine JR.StopY.out ?_)
        refine ⟨?_⟩
        refine (q3 _ (hs.below s3.hb)).mono ?_
        rintro e w8 ⟨rfl, hb⟩
        have s4 := s3.ext hb
        clear hb s3 q3 y1 y2
        generalize rsd hl po = g2 at *
        by_cases hg2 : 0 < g2
        · rw [decide_eq_true hg2] at hij
          rw [anyN_hit hjl hij] at hFi
          have hz := anyN_hit hlt hFi
          rw [hz] at hans
          replace hans : ans = false := hans.symm
          subst hans
          have hg2' := decide_eq_true hg2
          go_wp2
          go_ret
          exact ⟨rfl, s4.hb⟩
        rw [decide_eq_false hg2] at hij
        have hg2' := decide_eq_false hg2
        have hstep := anyN_step hoj hij
        go_wp2
        exact ⟨⟨j + 1, hjl, by go_num, hstep, s4⟩, by simp only [intOf]; omega⟩
      · obtain rfl : j = i := by omega
        rw [hoj] at hFi
        have hstep := anyN_step ho hFi
        go_wp2
        exact ⟨⟨j + 1, hlt, by go_num, hstep, hsj⟩, by simp only [intOf]; omega⟩
end Go.Proofs.YtcoeiimohkofjaaGreat
