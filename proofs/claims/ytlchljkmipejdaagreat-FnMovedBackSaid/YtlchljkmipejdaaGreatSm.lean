import Derived.Test.YtlchljkmipejdaaGreatFits
import Derived.Test.YtlchljkmipejdaaGreatBlk
import Derived.Test.YtlchljkmipejdaaGreatRg
import Derived.Test.YtlchljkmipejdaaGreatJc
set_option linter.unusedSimpArgs false
set_option linter.unusedVariables false
/-! varySame answers true of equal shapes. -/
namespace Go.Proofs.YtlchljkmipejdaaGreat
open Go.RowKit PF JR
theorem eqPn (a b : Int) (u : World) : (Op.equalIn 10000 32 (.agg #[.int .i64 a, .int .i64 b]) (.agg #[.int .i64 a, .int .i64 b])).run Tryz.prog u = .ok true u := by
  have h25 : Tryz.prog.underlying 32 = some (.struct #[_, _]) := Tryz.underlying32
  have h2 : Tryz.prog.underlying 2 = some (.int .i64) := Tryz.underlying2
  rw [show (10000 : Nat) = 9998 + 2 from rfl]
  unfold Op.equalIn
  simp [run_underlying h25, go_sem]

set_option maxRecDepth 100000 in
set_option maxHeartbeats 1000000 in
theorem same_c (l : List (Int × Int)) (hl : l.length ≤ 2147483647) (v v2 : Value) (w : World) (hv : SlP w v l) (hv2 : SlP w v2 l) :
    Calls Tryz.prog 30 #[v, v2] w fun e w' => e = .returned (.bool true) ∧ Below w.heap.size w w' := by
  obtain ⟨A, c, rfl, hk⟩ := hv
  obtain ⟨A2, c2, rfl, hk2⟩ := hv2
  go_enter Tryz.func30, Tryz.ntmps30
  go_wp2
  go_loopw [13] (fun i wr => ∃ k : Nat, k ≤ l.length ∧ i = .int .i64 k ∧ Below w.heap.size w wr) (fun i _ => l.length - (intOf i).toNat)
  case atStart => exact ⟨0, Nat.zero_le _, rfl, Below.refl _ _⟩
  case round =>
    obtain ⟨k, hkl, rfl, hnx⟩ := hrel
    rcases Nat.lt_or_ge k l.length with hlt | hge
    · obtain ⟨p, hp⟩ : ∃ p, l[k]? = some p := ⟨l[k], by simp [hlt]⟩
      obtain ⟨b, off, rfl, h1, h2⟩ := hk k p hp
      obtain ⟨b2, off2, rfl, h3, h4⟩ := hk2 k p hp
      have g1 := (hnx.cell (World.block_lt_of_cell? w _ h1)).trans h1
      have g2 := (hnx.cell (World.block_lt_of_cell? w _ h2)).trans h2
      have g3 := (hnx.cell (World.block_lt_of_cell? w _ h3)).trans h3
      have g4 := (hnx.cell (World.block_lt_of_cell? w _ h4)).trans h4
      have hlt' : (k : Int) < (l.length : Int) := by omega
      have heq := eqPn
      clear h1 h2 h3 h4 hk hk2 hp
      go_wp2
      go_quiet (fail)
      go_wp2
      go_roundw
      case rel => exact ⟨k + 1, by omega, by go_num, below_drewN hnx _⟩
      case measure => simp [intOf]; omega
    · have hkk : k = l.length := by omega
      subst hkk
      clear hk hk2
      go_wp2
      go_ret
      exact ⟨rfl, hnx⟩

set_option maxRecDepth 100000 in
set_option maxHeartbeats 1000000 in
theorem varySame_c (K : Int) (l : List (Int × Int)) (H : List (List (Int × Int))) (hl : l.length ≤ 2147483647) (hm : H.length ≤ 1000) (hH : ∀ x ∈ H, x.length ≤ 2147483647) (v vh v2 vh2 : Value) (w : World) (hv : SlP w v l) (hh : SlH w vh H) (hv2 : SlP w v2 l) (hh2 : SlH w vh2 H) :
    Calls Tryz.prog 14 #[.agg #[.int .i64 K, v, vh], .agg #[.int .i64 K, v2, vh2]] w fun e w' => e = .returned (.bool true) ∧ Below w.heap.size w w' := by
  have st0 := ((Blk.nil w).push rfl #[.int .i64 K, v, vh] 27).push (b := w.heap.size + 1) (by simp) #[.int .i64 K, v2, vh2] 27
  have s1 := hv.below st0.hb
  have s2 := hv2.below st0.hb
  obtain ⟨A, c, rfl, hk⟩ := hh.below st0.hb
  obtain ⟨A2, c2, rfl, hk2⟩ := hh2.below st0.hb
  clear hv hv2 hh hh2
  have c0 := st0.cell 1 rfl 0
  have c1 := st0.cell 1 rfl 1
  have c2' := st0.cell 1 rfl 2
  have d0 := st0.cell 0 rfl 0
  have d1 := st0.cell 0 rfl 1
  have d2 := st0.cell 0 rfl 2
  simp only [List.getElem?_toArray, List.getElem?_cons_zero, List.getElem?_cons_succ] at c0 c1 c2' d0 d1 d2
  have hsame := same_c l hl v v2 _ s1 s2
  go_enter Tryz.func14, Tryz.ntmps14
  go_wp2_with (go_at_call 30; refine JR.StopM.out ?_)
  refine ⟨?_⟩
  refine hsame.mono ?_
  rintro e w1 ⟨rfl, hb⟩
  have st1 := st0.ext hb
  have hk' : ∀ k h, H[k]? = some h → ∃ b off vh, A = some ⟨b, off, none⟩ ∧ w1.cell? ⟨b, off + k, none⟩ = some vh ∧ SlP w1 vh h := by
    intro k h hx
    obtain ⟨b, off, y, e1, e2, e3⟩ := hk k h hx
    exact ⟨b, off, y, e1, (hb.cell (World.block_lt_of_cell? _ _ e2)).trans e2, e3.below hb⟩
  have hk2' : ∀ k h, H[k]? = some h → ∃ b off vh, A2 = some ⟨b, off, none⟩ ∧ w1.cell? ⟨b, off + k, none⟩ = some vh ∧ SlP w1 vh h := by
    intro k h hx
    obtain ⟨b, off, y, e1, e2, e3⟩ := hk2 k h hx
    exact ⟨b, off, y, e1, (hb.cell (World.block_lt_of_cell? _ _ e2)).trans e2, e3.below hb⟩
  clear hb hsame s1 s2 hk hk2 c0 c1 c2' d0 d1 d2 st0
  have c0 := st1.cell 1 rfl 0
  have c1 := st1.cell 1 rfl 1
  have c2' := st1.cell 1 rfl 2
  have d0 := st1.cell 0 rfl 0
  have d1 := st1.cell 0 rfl 1
  have d2 := st1.cell 0 rfl 2
  simp only [List.getElem?_toArray, List.getElem?_cons_zero, List.getElem?_cons_succ] at c0 c1 c2' d0 d1 d2
  go_wp2
  go_loopw [33] (fun i wr => ∃ k : Nat, k ≤ H.length ∧ i = .int .i64 k ∧ Below w1.heap.size w1 wr) (fun i _ => H.length - (intOf i).toNat)
  case atStart => exact ⟨0, Nat.zero_le _, rfl, Below.refl _ _⟩
  case round =>
    obtain ⟨k, hkl, rfl, hnx⟩ := hrel
    have st2 := st1.ext hnx
    clear c0 c1 c2' d0 d1 d2
    rcases Nat.lt_or_ge k H.length with hlt | hge
    · obtain ⟨x, hx⟩ : ∃ x, H[k]? = some x := ⟨H[k], by simp [hlt]⟩
      obtain ⟨b, off, y, rfl, h1, h2⟩ := hk' k x hx
      obtain ⟨b2, off2, y2, rfl, h3, h4⟩ := hk2' k x hx
      have g1 := (hnx.cell (World.block_lt_of_cell? _ _ h1)).trans h1
      have g3 := (hnx.cell (World.block_lt_of_cell? _ _ h3)).trans h3
      have l1 := World.block_lt_of_cell? _ _ g1
      have l3 := World.block_lt_of_cell? _ _ g3
      have s1 := h2.below hnx
      have s2 := h4.below hnx
      have hxl := hH x (List.mem_of_getElem? hx)
      have hlt' : (k : Int) < (H.length : Int) := by omega
      obtain ⟨Ay, cy, rfl⟩ := h2.len
      obtain ⟨Az, cz, rfl⟩ := h4.len
      have c2' := st2.cell 1 rfl 2
      have d2 := st2.cell 0 rfl 2
      simp only [List.getElem?_toArray, List.getElem?_cons_zero, List.getElem?_cons_succ] at c2' d2
      clear h1 h2 h3 h4 hk' hk2' hx
      go_wp2
      refine wp_region_K [] [.val (.func (.func 30) #[] #[]),
          .val (.pointer (some ⟨w.heap.size, 2, none⟩)),
          .val (.slice (some ⟨b, off, none⟩) H.length c),
          .val (.int .i64 k),
          .val (.pointer (some ⟨b, off + k, none⟩)),
          .val (.slice Ay x.length cy),
          .val (.pointer (some ⟨w.heap.size + 1, 2, none⟩)),
          .val (.slice (some ⟨b2, off2, none⟩) H.length c2),
          .val (.int .i64 k),
          .val (.pointer (some ⟨b2, off2 + k, none⟩)),
          .val (.slice Az x.length cz),
          .val (.bool true),
          .val (.bool false)]
        [[.ini 5], [.ini 2], [.frm 1 37], [.ini 6], [.frm 2 38, .frm 3 39], [.frm 4 40], [.ini 3], [.frm 6 42], [.ini 6], [.frm 7 43, .frm 8 44], [.frm 9 45], [.frm 0 36, .frm 5 41, .frm 10 46], [.frm 11 47]]
        mixed (by kernel_rfl) (by kernel_rfl) (allPre_of ⟨trivial, trivial, trivial, trivial, trivial, trivial, trivial, trivial, trivial, trivial, trivial, trivial, trivial, trivial⟩)
        ⟨OpOk.quiet rfl ?_,
          OpOk.quiet rfl ?_,
          OpOk.quiet rfl ?_,
          OpOk.quiet rfl ?_,
          OpOk.quiet rfl ?_,
          OpOk.quiet rfl ?_,
          OpOk.quiet rfl ?_,
          OpOk.quiet rfl ?_,
          OpOk.quiet rfl ?_,
          OpOk.quiet rfl ?_,
          OpOk.quiet rfl ?_,
          OpOk.call rfl ?_,
          OpOk.quiet rfl ?_, trivial⟩ ?_
      · intro a u _ hf
        simp [facts, Need.fact, Act.eval] at hf
        go_simp
      · intro a u _ hf
        simp [facts, Need.fact, Act.eval] at hf
        go_simp
      · intro a u hG hf
        simp [facts, Need.fact, Ent.val, Act.eval] at hf
        have hc := True.intro
        have q0 := (hG.cell (p := ⟨w.heap.size, 2, none⟩) (st2.lt 1 rfl) (by simp)).trans c2'
        have q1 := (hG.cell (p := ⟨w.heap.size + 1, 2, none⟩) (st2.lt 0 rfl) (by simp)).trans d2
        have q2 := (hG.cell (p := ⟨b, off + k, none⟩) l1 (by simp)).trans g1
        have q3 := (hG.cell (p := ⟨b2, off2 + k, none⟩) l3 (by simp)).trans g3

        go_simp
      · intro a u _ hf
        simp [facts, Need.fact, Act.eval] at hf
        go_simp
      · intro a u _ hf
        simp [facts, Need.fact, Ent.val, Act.eval] at hf
        go_simp
      · intro a u hG hf
        simp [facts, Need.fact, Ent.val, Act.eval] at hf
        have hc := True.intro
        have q0 := (hG.cell (p := ⟨w.heap.size, 2, none⟩) (st2.lt 1 rfl) (by simp)).trans c2'
        have q1 := (hG.cell (p := ⟨w.heap.size + 1, 2, none⟩) (st2.lt 0 rfl) (by simp)).trans d2
        have q2 := (hG.cell (p := ⟨b, off + k, none⟩) l1 (by simp)).trans g1
        have q3 := (hG.cell (p := ⟨b2, off2 + k, none⟩) l3 (by simp)).trans g3

        go_simp
      · intro a u _ hf
        simp [facts, Need.fact, Act.eval] at hf
        go_simp
      · intro a u hG hf
        simp [facts, Need.fact, Ent.val, Act.eval] at hf
        have hc := True.intro
        have q0 := (hG.cell (p := ⟨w.heap.size, 2, none⟩) (st2.lt 1 rfl) (by simp)).trans c2'
        have q1 := (hG.cell (p := ⟨w.heap.size + 1, 2, none⟩) (st2.lt 0 rfl) (by simp)).trans d2
        have q2 := (hG.cell (p := ⟨b, off + k, none⟩) l1 (by simp)).trans g1
        have q3 := (hG.cell (p := ⟨b2, off2 + k, none⟩) l3 (by simp)).trans g3

        go_simp
      · intro a u _ hf
        simp [facts, Need.fact, Act.eval] at hf
        go_simp
      · intro a u _ hf
        simp [facts, Need.fact, Ent.val, Act.eval] at hf
        go_simp
      · intro a u hG hf
        simp [facts, Need.fact, Ent.val, Act.eval] at hf
        have hc := True.intro
        have q0 := (hG.cell (p := ⟨w.heap.size, 2, none⟩) (st2.lt 1 rfl) (by simp)).trans c2'
        have q1 := (hG.cell (p := ⟨w.heap.size + 1, 2, none⟩) (st2.lt 0 rfl) (by simp)).trans d2
        have q2 := (hG.cell (p := ⟨b, off + k, none⟩) l1 (by simp)).trans g1
        have q3 := (hG.cell (p := ⟨b2, off2 + k, none⟩) l3 (by simp)).trans g3

        go_simp
      · intro a u hG hf
        simp [facts, Need.fact, Ent.val, Act.eval] at hf
        have hsm := same_c x hxl _ _ u (s1.below (Keep.below hG)) (s2.below (Keep.below hG))
        refine ⟨_, _, by go_simp, hsm.mono ?_⟩
        rintro e w' ⟨rfl, hb⟩
        exact ⟨_, rfl, hb, rfl⟩
      · intro a u _ hf
        simp [facts, Need.fact, Ent.val, Act.eval] at hf
        go_simp
      intro u lw hw wc hKp hE hI hD
      simp [allE, Ent.val] at hE
      obtain ⟨u0, u1, u2, u3, u4, u5, u6, u7, u8, u9, u10, u11, u12⟩ := hE
      simp only [allPut, Act.put, u11, u0, u1, u2, u3, u4, u5, u6, u7, u8, u9, u10, u12]
      clear u0 u1 u2 u3 u4 u5 u6 u7 u8 u9 u10 u12

      have hB2 := Keep.belowX (B := w1.heap.size) hKp hnx hnx.size (by simp)
      clear hKp hI hD c2' d2 g1 g3 s1 s2
      try simp only [List.setIfInBounds_toArray, List.set_cons_zero, List.set_cons_succ]
      go_wp2
      go_roundw
      case rel => exact ⟨k + 1, by omega, by go_num, hB2⟩
      case measure => simp [intOf]; omega
    · have hkk : k = H.length := by omega
      subst hkk
      clear hk' hk2'
      go_wp2
      go_ret
      exact ⟨rfl, st2.hb⟩
end Go.Proofs.YtlchljkmipejdaaGreat
