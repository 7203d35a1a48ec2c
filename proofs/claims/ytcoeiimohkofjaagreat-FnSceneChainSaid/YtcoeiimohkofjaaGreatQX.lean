import Derived.Test.YtcoeiimohkofjaaGreatQR
import Derived.Test.YtcoeiimohkofjaaGreatQY
import Derived.Test.YtcoeiimohkofjaaGreatQW
import Derived.Test.YtcoeiimohkofjaaGreatHp
import Derived.Test.YtcoeiimohkofjaaGreatQZ
import Derived.Test.YtcoeiimohkofjaaGreatQO
import Derived.Test.YtcoeiimohkofjaaGreatYi
import Derived.Test.YtcoeiimohkofjaaGreatYg
import Derived.Test.YtcoeiimohkofjaaGreatGc
set_option linter.unusedSimpArgs false
set_option linter.unusedVariables false
/-! Plain: the scene's own segments and rings (spec.GeoOn, GeoLeft, GeoMeet, RingSide), and a rectangle and a line. -/
namespace PF
theorem gsgn_neg {m n : Int} : gsgn m * gsgn n < 0 ↔ (m < 0 ∧ 0 < n) ∨ (0 < m ∧ n < 0) := by
  unfold gsgn
  split <;> split <;> (try split) <;> (try split) <;> simp <;> omega
theorem gmt_sym (a b c d : Int × Int) : gmt a b c d = gmt c d a b := by
  unfold gmt
  cases gon a b c <;> cases gon a b d <;> cases gon c d a <;> cases gon c d b <;> simp [Bool.and_comm]
end PF
namespace Go.Proofs.YtcoeiimohkofjaaGreat
open Go.RowKit PF JR
section
variable {a b c d : Int}
end
end Go.Proofs.YtcoeiimohkofjaaGreat
set_option linter.unusedSimpArgs false
set_option linter.unusedVariables false
/-! laws.sceneAwake is true. -/
namespace PF
open Go Go.RowKit JR
theorem SlP_row {w : World} {b : Nat} {l : List (Int × Int)} {T : TypeId} (h : w.heap[b]? = some (.cells (cellsP l).toArray T (0, 0))) (c : Nat) : SlP w (.slice (some ⟨b, 0, none⟩) l.length c) l := by
  refine ⟨_, c, rfl, fun k x hx => ?_⟩
  obtain ⟨h1, h2⟩ := cellsP_get l k x hx
  have z0 := cellAt h (k * 2)
  have z1 := cellAt h (k * 2 + 1)
  simp only [List.getElem?_toArray] at z0 z1
  exact ⟨b, 0, rfl, by rw [Nat.zero_add, z0, h1], by rw [Nat.zero_add, z1, h2]⟩
theorem SlH_nil (w : World) (c : Nat) (A : Option Addr) : SlH w (.slice A 0 c) [] := ⟨A, c, rfl, fun k x hx => by simp at hx⟩
end PF
namespace Go.Proofs.YtcoeiimohkofjaaGreat
open Go.RowKit PF JR
set_option maxRecDepth 100000 in
theorem awk_c (w : World) : Calls Tryz.prog 22 #[] w fun e w' => e = .returned (.bool true) ∧ Below w.heap.size w w' := by
  have st0 := ((Blk.nil w).push rfl (cellsP [(0, 0), (2, 0), (2, 2), (0, 2)]).toArray 63).push (b := w.heap.size + 1) (by simp) (cellsP [(-1, 1), (3, 1)]).toArray 63
  have h1 := SlP_row (l := [(0, 0), (2, 0), (2, 2), (0, 2)]) (st0.known 1 _ rfl) 4
  have h2 := SlP_row (l := [(-1, 1), (3, 1)]) (st0.known 0 _ rfl) 2
  have ok1 : ShOk 3 [(0, 0), (2, 0), (2, 2), (0, 2)] [] := ⟨by simp [Bn3], by simp, by simp, .inr (.inr (.inr ⟨rfl, by simp, by simp⟩))⟩
  have ok2 : ShOk 2 [(-1, 1), (3, 1)] [] := ⟨by simp [Bn3], by simp, by simp, .inr (.inr (.inl ⟨rfl, by simp, by simp⟩))⟩
  have hA := ask_sc (X := 0) (by omega) 3 _ _ ok1 2 _ _ (.inr (.inr (.inr ⟨rfl, .inr ⟨rfl, by decide⟩⟩))) ok2 _ (.slice none 0 0) _ (.slice none 0 0) _ h1 (SlH_nil _ 0 none) h2 (SlH_nil _ 0 none)
  have e1 : hdS 3 [(0, 0), (2, 0), (2, 2), (0, 2)] [] 2 [(-1, 1), (3, 1)] [] = false := by decide
  have e2 : mtV 3 [(0, 0), (2, 0), (2, 2), (0, 2)] [] 2 [(-1, 1), (3, 1)] [] = true := by decide
  rw [e1, e2] at hA
  simp only [cellsP, List.flatMap_cons, List.flatMap_nil, List.cons_append, List.nil_append] at st0 hA
  go_enter Tryz.func22, Tryz.ntmps22
  go_wp2_with (go_at_call 21; refine JR.StopY.out ?_)
  refine ⟨?_⟩
  refine hA.mono ?_
  rintro e w1 ⟨rfl, hb⟩
  have st1 := st0.ext hb
  go_wp2
  go_ret
  exact ⟨rfl, st1.hb⟩
theorem okS_b {m : List (Int × Int)} (h : m.all okS = true) : (∀ p ∈ m, Bs p) ∧ ∀ p ∈ m, Bn3 p := by
  rw [List.all_eq_true] at h
  refine ⟨fun p hp => ?_, fun p hp => ?_⟩ <;> have := of_decide_eq_true (h p hp)
  · unfold Bs; omega
  · unfold Bn3; omega
theorem isc_le {l : List (Int × Int)} {n : Int} (h : iscB l n = true) : (l.length : Int) ≤ n ∧ l.all okS = true := by
  unfold iscB at h
  rw [Bool.and_eq_true, decide_eq_true_iff] at h
  exact h
end Go.Proofs.YtcoeiimohkofjaaGreat
set_option linter.unusedSimpArgs false
set_option linter.unusedVariables false
/-! laws.zzFits1, zzFits2, scenePoly, scenePoint (printed by gen/yk.py). -/
namespace Go.Proofs.YtcoeiimohkofjaaGreat
open Go Go.RowKit PF JR

theorem infoPsS : (Tryz.prog.info? 31).map (fun i => (i.zero, i.size, i.bytes)) = some (some (.slice none 0 0), 1, 24) := by kernel_rfl
set_option maxRecDepth 100000 in
set_option maxHeartbeats 4000000 in
theorem scPo_r (l : List (Int × Int)) (H : List (List (Int × Int))) (hl : l.length ≤ 2147483647) (hl0 : 0 < l.length) (hH3 : H.length ≤ 3) (hHs : ∀ x ∈ H, 3 ≤ x.length ∧ x.length ≤ 12) (v vh : Value) (w : World) (hv : SlP w v l) (hvh : SlH w vh H) :
    Calls Tryz.prog 19 #[.agg #[v, vh]] w fun e w' => ∃ v' vh', e = .returned (.agg #[.int .i64 3, v', vh']) ∧ SlR w.heap.size w'.heap.size w' v' l ∧ SlHR w.heap.size w'.heap.size w' vh' H ∧ Below w.heap.size w w' := by
  obtain ⟨Av, cv, rfl, -⟩ := id hv
  obtain ⟨A, c, rfl, hk⟩ := id hvh
  obtain ⟨i0, hi, hz0, hz1, hz2⟩ := info_parts infoPsS
  have stP := ((Blk.nil w).push rfl #[.slice Av l.length cv, .slice A H.length c] 25).push (b := w.heap.size + 1) (by simp) #[.int .i64 0, .slice none 0 0, .slice none 0 0] 34
  have hlH : ∀ j, H.length = j → H.length = j := fun _ h => h
  clear hlH
  go_enter Tryz.func19, Tryz.ntmps19
  go_wp2_with (go_at_call 42; refine JR.StopY.out ?_)
  refine ⟨?_⟩
  refine (scp_n l hl _ _ (hv.below stP.hb)).mono ?_
  rintro e wa ⟨v5, rfl, hS, hb⟩
  obtain ⟨A5, c5, rfl, -⟩ := id hS
  have stA := stP.ext hb
  obtain ⟨b5, j1, j2, j3, r5⟩ := hS.one hl0
  have st1 := stA.push (b := wa.heap.size) rfl #[.int .i64 3, .slice A5 l.length c5, .slice none 0 0] 34
  have r5 := r5.keep' (w' := wa.alloc (.cells #[.int .i64 3, .slice A5 l.length c5, .slice none 0 0] 34)) fun b h1 h2 h3 => Below.heap_alloc wa _ b h3
  have hb5 : w.heap.size + 2 ≤ b5 := by simp at j1; omega
  have hb57 : b5 < wa.heap.size := j3
  have hsz7 : (wa.alloc (.cells #[.int .i64 3, .slice A5 l.length c5, .slice none 0 0] 34)).heap.size = wa.heap.size + 1 := by simp
  have m2 := st1.cell 2 rfl 1
  simp only [List.getElem?_toArray, List.getElem?_cons_zero, List.getElem?_cons_succ] at m2
  clear hb stP stA hS j1 j2 j3 hv hvh
  go_wp2
  generalize wa.alloc _ = wc at *
  generalize wa.heap.size = b7 at *
  have hb7 : w.heap.size + 3 ≤ b7 := by omega
  have hb7w : b7 < wc.heap.size := by omega
  obtain ⟨Bs, hBs⟩ : ∃ x, wc.heap.size = x := ⟨_, rfl⟩
  go_loopw [13] (fun i wr => ∃ k : Nat, k ≤ H.length ∧ i = .int .i64 k ∧ ∃ (vo : Value) (xs : List Value), wr.ownsRow Bs 31 1 vo k xs ∧
    (∀ (j : Nat) (x : List (Int × Int)), j < k → H[j]? = some x → ∃ y b, xs[j]? = some y ∧ Bs ≤ b ∧ b < wr.heap.size ∧ SlR b (b + 1) wr y x) ∧
    SlR b5 (b5 + 1) wr (.slice A5 l.length c5) l ∧ Bs ≤ wr.heap.size ∧ Blk w wr ((b7, #[.int .i64 3, .slice A5 l.length c5, vo], 34) :: [(w.heap.size + 1, #[.int .i64 0, .slice none 0 0, .slice none 0 0], 34), (w.heap.size, #[.slice Av l.length cv, .slice A H.length c], 25)])) (fun i _ => H.length - (intOf i).toNat)
  case atStart => exact ⟨0, Nat.zero_le _, rfl, .slice none 0 0, [], World.ownsRow_nil _ _ _ _, fun j x hj => absurd hj (Nat.not_lt_zero _), r5, Nat.le_of_eq hBs.symm, st1⟩
  case round =>
    clear r5 st1 m2
    obtain ⟨k, hkl, rfl, vo, xs, hown, hqs, hr5, hBr, hB⟩ := hrel
    rcases Nat.lt_or_ge k H.length with hlt | hge
    · obtain ⟨x, hx⟩ : ∃ x, H[k]? = some x := ⟨H[k], by simp [hlt]⟩
      obtain ⟨bb, off, y, rfl, h1, h2⟩ := hk k x hx
      obtain ⟨Ay, cy, hyy⟩ := h2.len
      subst hyy
      have hxs := hHs x (List.mem_of_getElem? hx)
      have hxl : x.length ≤ 12 := hxs.2
      have hxl0 : 0 < x.length := by omega
      have hlt' : (k : Int) < (H.length : Int) := by omega
      have gy := (hB.hb.cell (World.block_lt_of_cell? w _ h1)).trans h1
      have hfg := fun g (hg : vo.ownBlock = some g) => hown.lt g hg
      have hrow := hB.known 0 _ rfl
      have hb7r : b7 < wr.heap.size := hB.lt 0 rfl
      have hwr := hB.hb.size
      have hnb : b7 ∉ vo.ownBlock.toList := by intro hm; simp at hm; have := (hfg _ hm).1; omega
      have hX : ∀ z ∈ b7 :: vo.ownBlock.toList, w.heap.size ≤ z := by intro z hm; simp at hm; rcases hm with hm | hm; omega; have := (hfg _ hm).1; omega
      have hk3 : H.length ≤ 3 := hH3
      have hHp : ∀ x ∈ H, 3 ≤ x.length := fun x hx => (hHs x hx).1
      clear h1 hk hHs hxs
      go_wp2
      refine wp_region_K (b7 :: vo.ownBlock.toList) [.val (.pointer (some ⟨b7, 2, none⟩)), .val vo, .val (.slice Ay x.length cy), .slr x, .slcS 31 20, .appS vo k xs Bs 31 20, .val (.pointer (some ⟨b7, 2, none⟩)), .turnS b7 #[.int .i64 3, .slice A5 l.length c5, vo] 2 22 34]
        [[.ini 3], [.frm 0 17, .til 7], [.ini 5], [.frm 2 19], [.frm 3 20], [.frm 1 18, .frm 4 21, .til 5, .frm 3 20], [.ini 3], [.frm 6 23, .frm 5 22, .til 7]]
        mixed (by kernel_rfl) (by kernel_rfl) (allPre_of ⟨trivial, trivial, trivial, trivial, trivial, hown, trivial, hrow, trivial⟩)
        ⟨OpOk.quiet rfl ?_, OpOk.quiet rfl ?_, OpOk.quiet rfl ?_, OpOk.call rfl ?_, OpOk.slcS rfl ?_,
          OpOk.appS (inf := i0) rfl rfl Tryz.underlying32 hi hz0 hz1 hz2 rfl (by unfold maxLen; omega) (by omega) hBr (fun _ hG => hG.size) (fun b hb => (hfg b hb).2) (fun b hb => ⟨row_still rfl, row_still rfl, row_still rfl, row_none rfl (fun h => (nomatch h)), row_slcS, row_self rfl, row_still rfl, row_turnS (by have := (hfg b hb).1; omega), trivial⟩) (fun b hb => oldFree_of ⟨.inr (fun h => (nomatch h)), .inr (fun h => (nomatch h)), .inr (fun h => (nomatch h)), .inr (fun h => (nomatch h)), .inr (fun h => (nomatch h)), .inl rfl, .inr (fun h => (nomatch h)), .inr (by have := (hfg b hb).1; simp [Ent.turnS]; omega), trivial⟩) ?_ (fun _ b _ hb h => Keep.setRow h (.inr (by simp [hb]))),
          OpOk.quiet rfl ?_,
          OpOk.turnS rfl rfl (lt_of_some hrow) ⟨row_still rfl, row_still rfl, row_still rfl, row_none rfl (fun h => (nomatch h)), row_slcS, row_appS hnb, row_still rfl, row_self rfl, trivial⟩ (oldFree_of ⟨.inr (fun h => (nomatch h)), .inr (fun h => (nomatch h)), .inr (fun h => (nomatch h)), .inr (fun h => (nomatch h)), .inr (fun h => (nomatch h)), .inr hnb, .inr (fun h => (nomatch h)), .inl rfl, trivial⟩) (by kernel_rfl) (by simp) ?_ (fun _ _ h => Keep.setRow h (.inr (by simp))), trivial⟩ ?_
      · intro a u _ hf
        simp [facts, Need.fact, Act.eval] at hf
        go_simp
      · intro a u _ hf
        obtain ⟨⟨_, _, f1⟩, f2, -⟩ := hf
        have f1' : a.eval (.tmp 17) = .pointer (some ⟨b7, 2, none⟩) := f1
        have c11 := cellAt (show u.heap[b7]? = some (.cells #[.int .i64 3, .slice A5 l.length c5, vo] 34 (0, 0)) from f2) 2
        simp only [List.getElem?_toArray, List.getElem?_cons_zero, List.getElem?_cons_succ] at c11
        clear f1 f2
        simp [Act.eval] at f1'
        go_simp
      · intro a u _ hf
        simp [facts, Need.fact, Act.eval] at hf
        go_simp
      · intro a u hG hf
        simp [facts, Need.fact, Ent.val, Act.eval] at hf
        have s1 := h2.below (Keep.belowX hG hB.hb hB.hb.size hX)
        refine ⟨_, _, by go_simp, (scp_n x (by omega) _ _ s1).mono ?_⟩
        rintro e w' ⟨v', rfl, hr, hb⟩
        exact ⟨_, rfl, hb, hr⟩
      · intro a u _ hf
        obtain ⟨⟨_, _, f2⟩, -⟩ := hf
        obtain ⟨A9, c9, f3⟩ := SlR.len f2
        simp [Act.eval] at f3
        go_simp
      · intro a u _ hf
        obtain ⟨⟨_, _, f1⟩, ⟨_, _, b, f2, _, _, f3⟩, f4, ⟨_, _, f5⟩, -⟩ := hf
        obtain ⟨A9, c9, f6⟩ := SlR.len f5
        exact ⟨f1, f4, by rw [f6]; rfl, b, f2, f3⟩
      · intro a u _ hf
        simp [facts, Need.fact, Act.eval] at hf
        go_simp
      · intro a u _ hf
        obtain ⟨⟨_, _, f1⟩, ⟨_, _, f2, f5⟩, f4, -⟩ := hf
        exact ⟨f1, own_one f2, f4⟩
      intro u lw hw wc2 hKp hE hI hD
      simp [allE, Ent.appS, Ent.slcS, Ent.slr, Ent.turnS, Ent.val] at hE
      obtain ⟨u0, u1, u2, u3, -, u5, u6, e7⟩ := hE
      simp only [allPut, Act.put, u0, u2, u6]
      clear u0 u2 u6
      simp [allPut, Act.put, Act.eval] at e7
      replace u3 : SlR (lw 3) (hw 3) wc2 (u 3) x := u3
      obtain ⟨o6, -⟩ := u5
      simp [allPut, Act.put, Act.eval] at o6
      have i4 := hI 3 (by show 3 < 8; omega)
      have hBe := Keep.belowX hKp hB.hb hB.hb.size hX
      have hxsl : xs.length = k := by have := hown.1; omega
      have h00 : 0 < k → ∃ A m c, xs[0]? = some (.slice A m c) := by
        intro hk0
        obtain ⟨y0, b0, e1, e2, e3, e4⟩ := hqs 0 (H[0]'(by omega)) hk0 (by simp)
        obtain ⟨A', c', e4⟩ := e4.len
        exact ⟨A', _, c', by rw [e1, e4]⟩
      have hqs2 : ∀ (j : Nat) (x2 : List (Int × Int)), j < k + 1 → H[j]? = some x2 → ∃ y b, (xs ++ [u 3])[j]? = some y ∧ Bs ≤ b ∧ b < wc2.heap.size ∧ SlR b (b + 1) wc2 y x2 := by
        intro j x2 hj hx2
        by_cases hjk : j = k
        · subst hjk
          rw [hx] at hx2
          cases hx2
          obtain ⟨b1, j1, j2, j3, r1⟩ := u3.one hxl0
          exact ⟨u 3, b1, by rw [List.getElem?_append_right (by omega)]; simp [hxsl], by have := i4.2; omega, j3, r1⟩
        · obtain ⟨y', b', e1, e2, e3, e4⟩ := hqs j x2 (by omega) hx2
          have hx20 : 0 < x2.length := by
            have := hHp x2 (List.mem_of_getElem? hx2); omega
          have hne := own_neR hown (h00 (by omega)) e4 hx20
          refine ⟨y', b', by rw [List.getElem?_append_left (by omega)]; exact e1, e2, Nat.lt_of_lt_of_le e3 hKp.size, e4.keep' fun b h1 h2 h3 => ?_⟩
          have hbb : b = b' := by omega
          subst hbb
          exact hKp.block b h3 (by
            intro hm
            simp at hm
            rcases hm with hm | hm
            · omega
            · exact hne hm.symm)
      have hr52 := hr5.keep' (w' := wc2) fun b h1 h2 h3 => hKp.block b h3 (by
        intro hm
        simp at hm
        rcases hm with hm | hm
        · omega
        · have := (hfg _ hm).1; omega)
      have hB2 := (hB.tail.keep hKp (fun i z hz => by
        intro hm
        simp at hm
        rcases i with _ | _ | i <;> simp at hz <;> subst hz <;> simp at hm <;> (rcases hm with hm | hm; omega; have := (hfg _ hm).1; omega)) (fun z hz => hX z hz)).add e7
      have hBs2 : Bs ≤ wc2.heap.size := Nat.le_trans hBr hKp.size
      try simp only [List.setIfInBounds_toArray, List.set_cons_zero, List.set_cons_succ]
      simp only [u1]
      generalize u 5 = y5 at *
      generalize u 4 = y4 at *
      generalize u 3 = y3 at *
      clear hKp hI hD e7 u1 u3 i4 hBe hqs hr5 hB hown hrow gy h2 h00 hnb hX hfg hx
      go_wp2
      go_roundw
      case rel => exact ⟨k + 1, by omega, by go_num, _, _, o6, hqs2, hr52, hBs2, hB2⟩
      case measure => simp [intOf]; omega
    · have hkk : k = H.length := by omega
      subst hkk
      have hol := SlH.own (H := H) (by simpa using hown) (fun j x hj hx => by
        obtain ⟨y, b, e1, -, -, e2⟩ := hqs j x hj hx
        exact ⟨y, e1, e2.p⟩)
      have n0 := hB.cell 0 rfl 0
      have n1 := hB.cell 0 rfl 1
      have n2 := hB.cell 0 rfl 2
      have ff := fun o => hB.frozen 1 rfl o
      have p0 := hB.cell 1 rfl 0
      have p1 := hB.cell 1 rfl 1
      have p2 := hB.cell 1 rfl 2
      simp only [List.getElem?_toArray, List.getElem?_cons_zero, List.getElem?_cons_succ] at n0 n1 n2 p0 p1 p2
      obtain ⟨Ao, co, hvo⟩ : ∃ A c, vo = .slice A H.length c := by
        obtain ⟨A, c, h1, -⟩ := id hol
        exact ⟨A, c, by simpa using h1⟩
      subst hvo
      have hne1 : w.heap.size + 1 ≠ b7 := by omega
      have hap : ∀ q r : Array Value, apart (w.heap.size + 1) 1 0 ((b7, q, 34) :: (w.heap.size + 1, r, 34) :: [(w.heap.size, #[.slice Av l.length cv, .slice A H.length c], 25)]) := fun q r => ⟨.inr (by show _ ≠ _; omega), .inl rfl, .inr (by show _ ≠ _; omega), trivial⟩
      clear hk hHs hol
      have st2 := ((hB.put 1 (o := 0) (v := .int .i64 3) rfl (hap _ _) (by omega)).put 1 (o := 1) (v := .slice A5 l.length c5) rfl (hap _ _) (by omega)).put 1 (o := 2) (v := .slice Ao H.length co) rfl (hap _ _) (by omega)
      have hgr : wr.grownBy (((wr.setCell ⟨w.heap.size + 1, 0, none⟩ (.int .i64 3)).setCell ⟨w.heap.size + 1, 1, none⟩ (.slice A5 l.length c5)).setCell ⟨w.heap.size + 1, 2, none⟩ (.slice Ao H.length co)) (some (w.heap.size + 1)) :=
        ⟨rfl, rfl, rfl, by simp, fun k hk hne => (Below.heap_setCell _ _ _ _ (fun h => hne (by rw [h]))).trans ((Below.heap_setCell _ _ _ _ (fun h => hne (by rw [h]))).trans (Below.heap_setCell _ _ _ _ (fun h => hne (by rw [h]))))⟩
      have hown2 := hown.kept hgr (.inr (fun h => by have := (hown.lt _ h).1; omega))
      have sp2 := (hr5.keep' (w' := (((wr.setCell ⟨w.heap.size + 1, 0, none⟩ (.int .i64 3)).setCell ⟨w.heap.size + 1, 1, none⟩ (.slice A5 l.length c5)).setCell ⟨w.heap.size + 1, 2, none⟩ (.slice Ao H.length co))) (fun b h1 h2 h3 => hgr.block b h3 (by simp; omega))).wide (l' := w.heap.size) (h' := ((((wr.setCell ⟨w.heap.size + 1, 0, none⟩ (.int .i64 3)).setCell ⟨w.heap.size + 1, 1, none⟩ (.slice A5 l.length c5)).setCell ⟨w.heap.size + 1, 2, none⟩ (.slice Ao H.length co))).heap.size) (by omega) (by simp; omega)
      have hol2 := SlHR.own (lo := w.heap.size) (hi := ((((wr.setCell ⟨w.heap.size + 1, 0, none⟩ (.int .i64 3)).setCell ⟨w.heap.size + 1, 1, none⟩ (.slice A5 l.length c5)).setCell ⟨w.heap.size + 1, 2, none⟩ (.slice Ao H.length co))).heap.size) (H := H) (by simpa using hown2) (by omega) (Nat.le_refl _) (fun j x hj hx => by
        obtain ⟨y, b, e1, e3, e4, e2⟩ := hqs j x hj hx
        exact ⟨y, e1, (e2.keep' (fun b h1 h2 h3 => hgr.block b h3 (by simp; omega))).wide (by omega) (by simp; omega)⟩)
      clear hgr hown2 hqs hr5 hown hB hap
      go_wp2
      simp only [List.set_cons_zero, List.set_cons_succ, List.setIfInBounds_toArray] at st2
      generalize ((wr.setCell _ _).setCell _ _).setCell _ _ = w9 at *
      have t0 := st2.cell 1 rfl 0
      have t1 := st2.cell 1 rfl 1
      have t2 := st2.cell 1 rfl 2
      simp at t0 t1 t2
      exact bodyPost_ret (v := .agg #[.int .i64 3, .slice A5 l.length c5, .slice Ao H.length co]) (by simp [results, Tryz.results19, go_sem, t0, t1, t2]) rfl ⟨_, _, rfl, sp2, hol2, st2.hb⟩
/-- a polygon's shape, a line's shape, made within a drawn region -/
def _root_.JR.Ent.sPo (L : List (Int × Int)) (H : List (List (Int × Int))) : Ent := .rel (fun v l h w => ∃ v' vh', v = .agg #[.int .i64 3, v', vh'] ∧ SlR l h w v' L ∧ SlHR l h w vh' H) (fun _ _ _ _ _ hk ⟨v', vh', h1, h2, h3⟩ => ⟨v', vh', h1, h2.keep hk, h3.keep hk⟩)
def _root_.JR.Ent.sLn (K : Int) (L : List (Int × Int)) : Ent := .rel (fun v l h w => ∃ v', v = .agg #[.int .i64 K, v', .slice none 0 0] ∧ SlR l h w v' L) (fun _ _ _ _ _ hk ⟨v', h1, h2⟩ => ⟨v', h1, h2.keep hk⟩)
end Go.Proofs.YtcoeiimohkofjaaGreat
set_option linter.unusedSimpArgs false
set_option linter.unusedVariables false
/-! Plain: a line past a ring at a height (FnSceneCut). -/
namespace Go.Proofs.YtcoeiimohkofjaaGreat
open Go.RowKit PF JR
theorem cnt_pair {F : Nat → Bool} {i j : Nat} : ∀ {n : Nat}, i < j → j < n → F i = true → F j = true → 2 ≤ cntN F n := by
  intro n
  induction n with
  | zero => intro _ h; omega
  | succ n ih =>
    intro hij hj fi fj
    rw [cntN]
    rcases Nat.lt_or_ge j n with h | h
    · have := ih hij h fi fj
      omega
    · obtain rfl : j = n := by omega
      rw [if_pos fj]
      have h1 := cntN_le (f := F) (k := i + 1) (n := j) (by omega)
      rw [cntN, if_pos fi] at h1
      omega
/-- the step from k on goes through h -/
def stp (f g : Nat → Int) (h : Int) (k : Nat) : Bool := decide ((f k ≤ h ∧ h ≤ g k) ∨ (g k ≤ h ∧ h ≤ f k))
section
variable {N : Nat} {f g : Nat → Int} {h : Int}
theorem way (h1 : ∀ k, k + 1 < N → g k = f (k + 1)) : ∀ n p, p + (n + 1) < N → ((f p ≤ h ∧ h ≤ f (p + (n + 1))) ∨ (f (p + (n + 1)) ≤ h ∧ h ≤ f p)) → ∃ k, p ≤ k ∧ k < p + (n + 1) ∧ stp f g h k = true := by
  intro n
  induction n with
  | zero =>
    intro p hp hh
    refine ⟨p, Nat.le_refl _, by omega, ?_⟩
    unfold stp
    rw [decide_eq_true_iff, h1 p (by omega)]
    simpa using hh
  | succ n ih =>
    intro p hp hh
    by_cases hs : stp f g h p = true
    · exact ⟨p, Nat.le_refl _, by omega, hs⟩
    · unfold stp at hs
      rw [decide_eq_true_iff, h1 p (by omega)] at hs
      rw [show p + (n + 1 + 1) = p + 1 + (n + 1) from by omega] at hh hp ⊢
      obtain ⟨k, a, b, c⟩ := ih (p + 1) hp (by omega)
      exact ⟨k, by omega, b, c⟩
theorem way' (h1 : ∀ k, k + 1 < N → g k = f (k + 1)) {p q : Nat} (hpq : p < q) (hq : q < N) (hh : (f p ≤ h ∧ h ≤ f q) ∨ (f q ≤ h ∧ h ≤ f p)) : ∃ k, p ≤ k ∧ k < q ∧ stp f g h k = true := by
  obtain ⟨n, rfl⟩ : ∃ n, q = p + (n + 1) := ⟨q - p - 1, by omega⟩
  exact way h1 n p hq hh
/-- round a ring, what lies on both sides of h goes through it twice -/
theorem twice (hN : 2 ≤ N) (h1 : ∀ k, k + 1 < N → g k = f (k + 1)) (h2 : g (N - 1) = f 0) {i j : Nat} (hi : i < N) (hj : j < N) (fi : f i ≤ h) (fj : h ≤ f j) : 2 ≤ cntN (stp f g h) N := by
  have core : ∀ p q, p < q → q < N → ((f p ≤ h ∧ h ≤ f q) ∨ (f q ≤ h ∧ h ≤ f p)) → 2 ≤ cntN (stp f g h) N := by
    intro p q hpq hq hh
    obtain ⟨k, k1, k2, k3⟩ := way' h1 hpq hq hh
    have hlast : (f (N - 1) ≤ h ∧ h ≤ f 0) ∨ (f 0 ≤ h ∧ h ≤ f (N - 1)) → 2 ≤ cntN (stp f g h) N := fun e =>
      cnt_pair (show k < N - 1 by omega) (by omega) k3 (by unfold stp; rw [decide_eq_true_iff, h2]; exact e)
    by_cases hl : (f (N - 1) ≤ h ∧ h ≤ f 0) ∨ (f 0 ≤ h ∧ h ≤ f (N - 1))
    · exact hlast hl
    -- both ends lie on one side of h: one of the two ways from there goes through it
    by_cases hp : (f 0 ≤ h ∧ h ≤ f p) ∨ (f p ≤ h ∧ h ≤ f 0)
    · by_cases h0 : p = 0
      · subst h0
        have hqn : q ≠ N - 1 := fun e => by subst e; omega
        obtain ⟨k', a, b, c⟩ := way' h1 (h := h) (p := q) (q := N - 1) (by omega) (by omega) (by omega)
        exact cnt_pair (show k < k' by omega) (by omega) k3 c
      · obtain ⟨k', a, b, c⟩ := way' h1 (p := 0) (q := p) (by omega) (by omega) hp
        exact cnt_pair (show k' < k by omega) (by omega) c k3
    · have hqn : q ≠ N - 1 := fun e => by subst e; omega
      obtain ⟨k', a, b, c⟩ := way' h1 (h := h) (p := q) (q := N - 1) (by omega) (by omega) (by omega)
      exact cnt_pair (show k < k' by omega) (by omega) k3 c
  rcases Nat.lt_trichotomy i j with e | e | e
  · exact core i j e hj (.inl ⟨fi, fj⟩)
  · subst e
    rcases Nat.eq_zero_or_pos i with e | e
    · subst e
      exact core 0 1 (by omega) (by omega) (by omega)
    · exact core 0 i e hi (by omega)
  · exact core j i e hi (.inr ⟨fi, fj⟩)
end
section
variable {l : List (Int × Int)}
end
end Go.Proofs.YtcoeiimohkofjaaGreat
set_option linter.unusedSimpArgs false
set_option linter.unusedVariables false
/-! Plane geometry: two points that no edge of a ring parts are on the same side of it. -/
namespace PF
section
variable {P Q a b : Int × Int}
theorem pos_of_mul {m n : Int} (hm : 0 ≤ m) (h : 0 < m * n) : 0 < n := by
  rcases Int.lt_or_le 0 n with g | g
  · exact g
  · have := mqr hm g; omega
theorem neg_of_mul {m n : Int} (hm : 0 ≤ m) (h : m * n < 0) : n < 0 := by
  rcases Int.lt_or_le n 0 with g | g
  · exact g
  · have := mqq hm g; omega
theorem se1 : (b.2 - a.2) * gsd P Q a = (a.2 - P.2) * (gsd a b P - gsd a b Q) - (Q.2 - P.2) * gsd a b P := by unfold gsd; grind
theorem se2 : (b.2 - a.2) * gsd P Q b = (b.2 - Q.2) * (gsd a b P - gsd a b Q) - (Q.2 - P.2) * gsd a b Q := by unfold gsd; grind
theorem se3 : gsd a b P - gsd a b Q = gsd P Q b - gsd P Q a := by unfold gsd; grind
/-- the four ways in which the heights of P Q and of a b overlap -/
theorem side4 (hpq : P.2 ≤ Q.2) (hab : a.2 ≤ b.2) (h : gmt P Q a b = false) (h1 : P.2 < b.2) (h2 : a.2 ≤ Q.2) :
    (if a.2 ≤ P.2 then 0 < gsd a b P else gsd P Q a < 0) ↔ (if Q.2 < b.2 then 0 < gsd a b Q else gsd P Q b < 0) := by
  obtain ⟨g1, g2, g3, g4, g5⟩ := gmt_f h
  have i1 := se1 (P := P) (Q := Q) (a := a) (b := b)
  have i2 := se2 (P := P) (Q := Q) (a := a) (b := b)
  have i3 := se3 (P := P) (Q := Q) (a := a) (b := b)
  have z1 : a.2 < b.2 → a.2 ≤ P.2 → P.2 ≤ b.2 → gsd a b P ≠ 0 := fun h h1 h2 hz => by rw [gon_mid h hz h1 h2] at g3; cases g3
  have z2 : a.2 < b.2 → a.2 ≤ Q.2 → Q.2 ≤ b.2 → gsd a b Q ≠ 0 := fun h h1 h2 hz => by rw [gon_mid h hz h1 h2] at g4; cases g4
  have z3 : P.2 < Q.2 → P.2 ≤ a.2 → a.2 ≤ Q.2 → gsd P Q a ≠ 0 := fun h h1 h2 hz => by rw [gon_mid h hz h1 h2] at g1; cases g1
  have z4 : P.2 < Q.2 → P.2 ≤ b.2 → b.2 ≤ Q.2 → gsd P Q b ≠ 0 := fun h h1 h2 hz => by rw [gon_mid h hz h1 h2] at g2; cases g2
  -- a level P Q through a, or a level a b through Q
  have f1 : P.2 = Q.2 → a.2 = P.2 → gsd P Q a = 0 ∧ ((0 < gsd a b P ∧ gsd a b Q < 0) ∨ (gsd a b P < 0 ∧ 0 < gsd a b Q)) → a.2 < b.2 → False := by
    intro e1 e2 hz hlt
    have t1 : gsd a b P = -((b.2 - a.2) * (P.1 - a.1)) := by unfold gsd; rw [show P.2 - a.2 = 0 by omega]; omega
    have t2 : gsd a b Q = -((b.2 - a.2) * (Q.1 - a.1)) := by unfold gsd; rw [show Q.2 - a.2 = 0 by omega]; omega
    have hon : gon P Q a = true := gon_iff.2 ⟨by
      rcases hz.2 with ⟨k1, k2⟩ | ⟨k1, k2⟩
      · have := neg_of_mul (m := b.2 - a.2) (n := P.1 - a.1) (by omega) (by omega)
        have := pos_of_mul (m := b.2 - a.2) (n := Q.1 - a.1) (by omega) (by omega)
        omega
      · have := pos_of_mul (m := b.2 - a.2) (n := P.1 - a.1) (by omega) (by omega)
        have := neg_of_mul (m := b.2 - a.2) (n := Q.1 - a.1) (by omega) (by omega)
        omega, hz.1⟩
    rw [hon] at g1; cases g1
  have f2 : a.2 = b.2 → b.2 = Q.2 → gsd a b Q = 0 ∧ ((0 < gsd P Q a ∧ gsd P Q b < 0) ∨ (gsd P Q a < 0 ∧ 0 < gsd P Q b)) → P.2 < Q.2 → False := by
    intro e1 e2 hz hlt
    have t1 : gsd P Q a = -((Q.2 - P.2) * (a.1 - Q.1)) := by unfold gsd; rw [show a.2 - P.2 = Q.2 - P.2 by omega]; grind
    have t2 : gsd P Q b = -((Q.2 - P.2) * (b.1 - Q.1)) := by unfold gsd; rw [show b.2 - P.2 = Q.2 - P.2 by omega]; grind
    have hon : gon a b Q = true := gon_iff.2 ⟨by
      rcases hz.2 with ⟨k1, k2⟩ | ⟨k1, k2⟩
      · have := neg_of_mul (m := Q.2 - P.2) (n := a.1 - Q.1) (by omega) (by omega)
        have := pos_of_mul (m := Q.2 - P.2) (n := b.1 - Q.1) (by omega) (by omega)
        omega
      · have := pos_of_mul (m := Q.2 - P.2) (n := a.1 - Q.1) (by omega) (by omega)
        have := neg_of_mul (m := Q.2 - P.2) (n := b.1 - Q.1) (by omega) (by omega)
        omega, hz.1⟩
    rw [hon] at g4; cases g4
  clear g1 g2 g3 g4 h
  generalize gsd P Q a = s1 at *
  generalize gsd P Q b = s2 at *
  generalize gsd a b P = t1 at *
  generalize gsd a b Q = t2 at *
  obtain ⟨p1, p⟩ := P
  obtain ⟨q1, q⟩ := Q
  obtain ⟨a1, A⟩ := a
  obtain ⟨b1, B⟩ := b
  simp only at *
  by_cases c1 : A ≤ p
  · by_cases c2 : q < B
    · rw [if_pos c1, if_pos c2]
      have hAB : A < B := by omega
      have y1 := z1 hAB c1 (by omega)
      have y2 := z2 hAB (by omega) (by omega)
      constructor
      · intro k
        rcases Int.lt_or_le 0 t2 with k2 | k2
        · exact k2
        · exfalso
          have k2 : t2 < 0 := by omega
          have a1 := mrq (m := A - p) (n := t1 - t2) (by omega) (by omega)
          have a2 := mqq (m := q - p) (n := t1) (by omega) (by omega)
          have a3 := mpp (m := B - q) (n := t1 - t2) (by omega) (by omega)
          have a4 := mqr (m := q - p) (n := t2) (by omega) (by omega)
          have k4 : 0 < s2 := pos_of_mul (m := B - A) (by omega) (by omega)
          have k3 : s1 ≤ 0 := by
            rcases Int.lt_or_le 0 s1 with g | g
            · have := mpp (m := B - A) (n := s1) (by omega) g; omega
            · exact g
          by_cases k5 : s1 = 0
          · have a5 : (B - A) * s1 = 0 := by rw [k5, Int.mul_zero]
            have a6 : (q - p) * t1 = 0 := by omega
            have a7 : q = p := by rcases Int.mul_eq_zero.1 a6 with h | h <;> omega
            have a8 : (A - p) * (t1 - t2) = 0 := by omega
            have a9 : A = p := by rcases Int.mul_eq_zero.1 a8 with h | h <;> omega
            exact f1 a7.symm a9 ⟨k5, .inl ⟨k, k2⟩⟩ hAB
          · exact g5 ⟨.inr ⟨by omega, k4⟩, .inl ⟨k, k2⟩⟩
      · intro k
        rcases Int.lt_or_le 0 t1 with k2 | k2
        · exact k2
        · exfalso
          have k2 : t1 < 0 := by omega
          have a1 := mrr (m := A - p) (n := t1 - t2) (by omega) (by omega)
          have a2 := mqr (m := q - p) (n := t1) (by omega) (by omega)
          have a3 := mpn (m := B - q) (n := t1 - t2) (by omega) (by omega)
          have a4 := mqq (m := q - p) (n := t2) (by omega) (by omega)
          have k4 : s2 < 0 := neg_of_mul (m := B - A) (by omega) (by omega)
          have k3 : 0 ≤ s1 := by
            rcases Int.lt_or_le s1 0 with g | g
            · have := mpn (m := B - A) (n := s1) (by omega) g; omega
            · exact g
          by_cases k5 : s1 = 0
          · have a5 : (B - A) * s1 = 0 := by rw [k5, Int.mul_zero]
            have a6 : (q - p) * t1 = 0 := by omega
            have a7 : q = p := by rcases Int.mul_eq_zero.1 a6 with h | h <;> omega
            have a8 : (A - p) * (t1 - t2) = 0 := by omega
            have a9 : A = p := by rcases Int.mul_eq_zero.1 a8 with h | h <;> omega
            exact f1 a7.symm a9 ⟨k5, .inr ⟨k2, k⟩⟩ hAB
          · exact g5 ⟨.inl ⟨by omega, k4⟩, .inr ⟨k2, k⟩⟩
    · rw [if_pos c1, if_neg c2]
      have hAB : A < B := by omega
      have hpq' : p < q := by omega
      have y1 := z1 hAB c1 (by omega)
      have y2 := z4 hpq' (by omega) (by omega)
      have key : (B - p) * (t1 - t2) = (B - A) * s2 + (q - p) * t1 := by grind
      constructor
      · intro k
        rcases Int.lt_or_le s2 0 with k2 | k2
        · exact k2
        · exfalso
          have k2 : 0 < s2 := by omega
          have a1 := mpp (m := B - A) (n := s2) (by omega) k2
          have a2 := mpp (m := q - p) (n := t1) (by omega) k
          have hD := pos_of_mul (m := B - p) (n := t1 - t2) (by omega) (by omega)
          have a3 := mrq (m := A - p) (n := t1 - t2) (by omega) (by omega)
          have a4 := mrq (m := B - q) (n := t1 - t2) (by omega) (by omega)
          have k3 : s1 < 0 := neg_of_mul (m := B - A) (by omega) (by omega)
          have k4 : t2 < 0 := neg_of_mul (m := q - p) (by omega) (by omega)
          exact g5 ⟨.inr ⟨k3, k2⟩, .inl ⟨k, k4⟩⟩
      · intro k
        rcases Int.lt_or_le 0 t1 with k2 | k2
        · exact k2
        · exfalso
          have k2 : t1 < 0 := by omega
          have a1 := mpn (m := B - A) (n := s2) (by omega) k
          have a2 := mpn (m := q - p) (n := t1) (by omega) k2
          have hD := neg_of_mul (m := B - p) (n := t1 - t2) (by omega) (by omega)
          have a3 := mrr (m := A - p) (n := t1 - t2) (by omega) (by omega)
          have a4 := mrr (m := B - q) (n := t1 - t2) (by omega) (by omega)
          have k3 : 0 < s1 := pos_of_mul (m := B - A) (by omega) (by omega)
          have k4 : 0 < t2 := pos_of_mul (m := q - p) (by omega) (by omega)
          exact g5 ⟨.inl ⟨k3, k⟩, .inr ⟨k2, k4⟩⟩
  · by_cases c2 : q < B
    · rw [if_neg c1, if_pos c2]
      have hAB : A < B := by omega
      have hpq' : p < q := by omega
      have y1 := z3 hpq' (by omega) (by omega)
      have y2 := z2 hAB (by omega) (by omega)
      have key : (q - A) * (t1 - t2) = -((B - A) * s1 + (q - p) * t2) := by grind
      constructor
      · intro k
        rcases Int.lt_or_le 0 t2 with k2 | k2
        · exact k2
        · exfalso
          have k2 : t2 < 0 := by omega
          have a1 := mpn (m := B - A) (n := s1) (by omega) k
          have a2 := mpn (m := q - p) (n := t2) (by omega) k2
          have hD := pos_of_mul (m := q - A) (n := t1 - t2) (by omega) (by omega)
          have a3 := mqq (m := A - p) (n := t1 - t2) (by omega) (by omega)
          have a4 := mqq (m := B - q) (n := t1 - t2) (by omega) (by omega)
          have k3 : 0 < s2 := pos_of_mul (m := B - A) (by omega) (by omega)
          have k4 : 0 < t1 := pos_of_mul (m := q - p) (by omega) (by omega)
          exact g5 ⟨.inr ⟨k, k3⟩, .inl ⟨k4, k2⟩⟩
      · intro k
        rcases Int.lt_or_le s1 0 with k2 | k2
        · exact k2
        · exfalso
          have k2 : 0 < s1 := by omega
          have a1 := mpp (m := B - A) (n := s1) (by omega) k2
          have a2 := mpp (m := q - p) (n := t2) (by omega) k
          have hD := neg_of_mul (m := q - A) (n := t1 - t2) (by omega) (by omega)
          have a3 := mqr (m := A - p) (n := t1 - t2) (by omega) (by omega)
          have a4 := mqr (m := B - q) (n := t1 - t2) (by omega) (by omega)
          have k3 : s2 < 0 := neg_of_mul (m := B - A) (by omega) (by omega)
          have k4 : t1 < 0 := neg_of_mul (m := q - p) (by omega) (by omega)
          exact g5 ⟨.inl ⟨k2, k3⟩, .inr ⟨k4, k⟩⟩
    · rw [if_neg c1, if_neg c2]
      have hpq' : p < q := by omega
      have y1 := z3 hpq' (by omega) (by omega)
      have y2 := z4 hpq' (by omega) (by omega)
      constructor
      · intro k
        rcases Int.lt_or_le s2 0 with k2 | k2
        · exact k2
        · exfalso
          have k2 : 0 < s2 := by omega
          have a1 := mpp (m := A - p) (n := t1 - t2) (by omega) (by omega)
          have a2 := mqr (m := B - A) (n := s1) (by omega) (by omega)
          have a3 := mrq (m := B - q) (n := t1 - t2) (by omega) (by omega)
          have a4 := mqq (m := B - A) (n := s2) (by omega) (by omega)
          have k3 : 0 < t1 := pos_of_mul (m := q - p) (by omega) (by omega)
          have k4 : t2 ≤ 0 := by
            rcases Int.lt_or_le 0 t2 with g | g
            · have := mpp (m := q - p) (n := t2) (by omega) g; omega
            · exact g
          by_cases k5 : t2 = 0
          · have a5 : (q - p) * t2 = 0 := by rw [k5, Int.mul_zero]
            have a6 : (B - A) * s2 = 0 := by omega
            have a7 : B = A := by rcases Int.mul_eq_zero.1 a6 with h | h <;> omega
            have a8 : (B - q) * (t1 - t2) = 0 := by omega
            have a9 : B = q := by rcases Int.mul_eq_zero.1 a8 with h | h <;> omega
            exact f2 a7.symm a9 ⟨k5, .inr ⟨k, k2⟩⟩ hpq'
          · exact g5 ⟨.inr ⟨k, k2⟩, .inl ⟨k3, by omega⟩⟩
      · intro k
        rcases Int.lt_or_le s1 0 with k2 | k2
        · exact k2
        · exfalso
          have k2 : 0 < s1 := by omega
          have a1 := mpn (m := A - p) (n := t1 - t2) (by omega) (by omega)
          have a2 := mqq (m := B - A) (n := s1) (by omega) (by omega)
          have a3 := mrr (m := B - q) (n := t1 - t2) (by omega) (by omega)
          have a4 := mqr (m := B - A) (n := s2) (by omega) (by omega)
          have k3 : t1 < 0 := neg_of_mul (m := q - p) (by omega) (by omega)
          have k4 : 0 ≤ t2 := by
            rcases Int.lt_or_le t2 0 with g | g
            · have := mpn (m := q - p) (n := t2) (by omega) g; omega
            · exact g
          by_cases k5 : t2 = 0
          · have a5 : (q - p) * t2 = 0 := by rw [k5, Int.mul_zero]
            have a6 : (B - A) * s2 = 0 := by omega
            have a7 : B = A := by rcases Int.mul_eq_zero.1 a6 with h | h <;> omega
            have a8 : (B - q) * (t1 - t2) = 0 := by omega
            have a9 : B = q := by rcases Int.mul_eq_zero.1 a8 with h | h <;> omega
            exact f2 a7.symm a9 ⟨k5, .inl ⟨k2, k⟩⟩ hpq'
          · exact g5 ⟨.inl ⟨k2, k⟩, .inr ⟨k3, by omega⟩⟩
/-- **an edge that does not part P from Q** -/
theorem edge_keep0 (hpq : P.2 ≤ Q.2) (hab : a.2 ≤ b.2) (h : gmt P Q a b = false) : (glf a b P != glf a b Q) = (spf P Q a != spf P Q b) := by
  rw [glf_up hab, glf_up hab]
  unfold spf
  by_cases h1 : P.2 < b.2
  · by_cases h2 : a.2 ≤ Q.2
    · have key := side4 hpq hab h h1 h2
      by_cases c1 : a.2 ≤ P.2 <;> by_cases c2 : Q.2 < b.2
      · rw [if_pos c1, if_pos c2] at key
        rw [show decide (a.2 ≤ P.2 ∧ P.2 < b.2 ∧ 0 < gsd a b P) = decide (a.2 ≤ Q.2 ∧ Q.2 < b.2 ∧ 0 < gsd a b Q) from decide_eq_decide.2 (by constructor <;> intro g <;> exact ⟨by omega, by omega, by first | exact key.1 g.2.2 | exact key.2 g.2.2⟩), decide_eq_false (show ¬ (P.2 < a.2 ∧ a.2 ≤ Q.2 ∧ gsd P Q a < 0) by omega), decide_eq_false (show ¬ (P.2 < b.2 ∧ b.2 ≤ Q.2 ∧ gsd P Q b < 0) by omega)]
        simp
      · rw [if_pos c1, if_neg c2] at key
        rw [show decide (a.2 ≤ P.2 ∧ P.2 < b.2 ∧ 0 < gsd a b P) = decide (P.2 < b.2 ∧ b.2 ≤ Q.2 ∧ gsd P Q b < 0) from decide_eq_decide.2 (by constructor <;> intro g <;> exact ⟨by omega, by omega, by first | exact key.1 g.2.2 | exact key.2 g.2.2⟩), decide_eq_false (show ¬ (P.2 < a.2 ∧ a.2 ≤ Q.2 ∧ gsd P Q a < 0) by omega), decide_eq_false (show ¬ (a.2 ≤ Q.2 ∧ Q.2 < b.2 ∧ 0 < gsd a b Q) by omega)]
        simp
      · rw [if_neg c1, if_pos c2] at key
        rw [show decide (P.2 < a.2 ∧ a.2 ≤ Q.2 ∧ gsd P Q a < 0) = decide (a.2 ≤ Q.2 ∧ Q.2 < b.2 ∧ 0 < gsd a b Q) from decide_eq_decide.2 (by constructor <;> intro g <;> exact ⟨by omega, by omega, by first | exact key.1 g.2.2 | exact key.2 g.2.2⟩), decide_eq_false (show ¬ (a.2 ≤ P.2 ∧ P.2 < b.2 ∧ 0 < gsd a b P) by omega), decide_eq_false (show ¬ (P.2 < b.2 ∧ b.2 ≤ Q.2 ∧ gsd P Q b < 0) by omega)]
        simp
      · rw [if_neg c1, if_neg c2] at key
        rw [show decide (P.2 < a.2 ∧ a.2 ≤ Q.2 ∧ gsd P Q a < 0) = decide (P.2 < b.2 ∧ b.2 ≤ Q.2 ∧ gsd P Q b < 0) from decide_eq_decide.2 (by constructor <;> intro g <;> exact ⟨by omega, by omega, by first | exact key.1 g.2.2 | exact key.2 g.2.2⟩), decide_eq_false (show ¬ (a.2 ≤ P.2 ∧ P.2 < b.2 ∧ 0 < gsd a b P) by omega), decide_eq_false (show ¬ (a.2 ≤ Q.2 ∧ Q.2 < b.2 ∧ 0 < gsd a b Q) by omega)]
        simp
    · rw [decide_eq_false (show ¬ (a.2 ≤ P.2 ∧ P.2 < b.2 ∧ 0 < gsd a b P) by omega), decide_eq_false (show ¬ (a.2 ≤ Q.2 ∧ Q.2 < b.2 ∧ 0 < gsd a b Q) by omega), decide_eq_false (show ¬ (P.2 < a.2 ∧ a.2 ≤ Q.2 ∧ gsd P Q a < 0) by omega), decide_eq_false (show ¬ (P.2 < b.2 ∧ b.2 ≤ Q.2 ∧ gsd P Q b < 0) by omega)]
  · rw [decide_eq_false (show ¬ (a.2 ≤ P.2 ∧ P.2 < b.2 ∧ 0 < gsd a b P) by omega), decide_eq_false (show ¬ (a.2 ≤ Q.2 ∧ Q.2 < b.2 ∧ 0 < gsd a b Q) by omega), decide_eq_false (show ¬ (P.2 < a.2 ∧ a.2 ≤ Q.2 ∧ gsd P Q a < 0) by omega), decide_eq_false (show ¬ (P.2 < b.2 ∧ b.2 ≤ Q.2 ∧ gsd P Q b < 0) by omega)]
theorem gmt_swap2 (P Q a b : Int × Int) (h : gmt P Q a b = false) : gmt P Q b a = false := by
  have e1 := gsd_swap a b P
  have e2 := gsd_swap a b Q
  have m : ∀ p, gon b a p = gon a b p := fun p => by
    unfold gon gwi; rw [gsd_swap a b p, Int.min_comm, Int.max_comm, Int.min_comm b.2, Int.max_comm b.2, decide_eq_decide.2 (show -gsd a b p = 0 ↔ gsd a b p = 0 by omega)]
  have n : ∀ x : Int, gsgn (-x) = -gsgn x := fun x => by
    unfold gsgn
    split <;> split <;> (try split) <;> (try split) <;> omega
  unfold gmt at h ⊢
  rw [m, m, e1, e2, n, n, Int.neg_mul_neg, Int.mul_comm (gsgn (gsd P Q b)), Bool.or_comm (gon P Q b)]
  exact h
theorem edge_keep1 (hpq : P.2 ≤ Q.2) (h : gmt P Q a b = false) : (glf a b P != glf a b Q) = (spf P Q a != spf P Q b) := by
  rcases Int.le_total a.2 b.2 with g | g
  · exact edge_keep0 hpq g h
  · rw [← glf_swap a b P, ← glf_swap a b Q, edge_keep0 hpq g (gmt_swap2 _ _ _ _ h)]
    cases spf P Q a <;> cases spf P Q b <;> rfl
theorem gmt_swap1 (P Q a b : Int × Int) (h : gmt P Q a b = false) : gmt Q P a b = false := by
  have e1 := gsd_swap P Q a
  have e2 := gsd_swap P Q b
  have m : ∀ p, gon Q P p = gon P Q p := fun p => by
    unfold gon gwi; rw [gsd_swap P Q p, Int.min_comm, Int.max_comm, Int.min_comm Q.2, Int.max_comm Q.2, decide_eq_decide.2 (show -gsd P Q p = 0 ↔ gsd P Q p = 0 by omega)]
  have n : ∀ x : Int, gsgn (-x) = -gsgn x := fun x => by
    unfold gsgn
    split <;> split <;> (try split) <;> (try split) <;> omega
  unfold gmt at h ⊢
  rw [m, m, e1, e2, n, n, Int.neg_mul_neg, Int.mul_comm (gsgn (gsd a b Q)), Bool.or_assoc (gon P Q a || gon P Q b), Bool.or_comm (gon a b Q), ← Bool.or_assoc (gon P Q a || gon P Q b)]
  exact h
end
end PF
namespace Go.Proofs.YtcoeiimohkofjaaGreat
open Go.RowKit PF JR
/-- **two points that no edge of a ring parts are on the same side of it** -/
theorem ring_keep {l : List (Int × Int)} {P Q : Int × Int} (h0 : 0 < l.length) (h : ∀ k, k < l.length → gmt P Q (at' l k) (nxp l k) = false) : xrs l P l.length = xrs l Q l.length := by
  have core : ∀ P Q : Int × Int, P.2 ≤ Q.2 → (∀ k, k < l.length → gmt P Q (at' l k) (nxp l k) = false) → xrs l P l.length = xrs l Q l.length := fun P Q hpq h => by
    refine (tele (l := l) (m := l) (p := Q) (p' := P) (spf P Q) h0 fun k hk => ?_)
    have e := edge_keep1 hpq (h k hk)
    rw [glf_rc, glf_rc] at e
    show rcIn _ _ _ _ _ _ = (rcIn _ _ _ _ _ _ != _)
    rw [← e]
    cases rcIn (at' l k).1 (at' l k).2 (nxp l k).1 (nxp l k).2 P.1 P.2 <;> cases rcIn (at' l k).1 (at' l k).2 (nxp l k).1 (nxp l k).2 Q.1 Q.2 <;> rfl
  rcases Int.le_total P.2 Q.2 with g | g
  · exact core P Q g h
  · exact (core Q P g fun k hk => gmt_swap1 _ _ _ _ (h k hk)).symm
end Go.Proofs.YtcoeiimohkofjaaGreat
