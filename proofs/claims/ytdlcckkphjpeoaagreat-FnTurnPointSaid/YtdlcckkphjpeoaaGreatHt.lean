import Derived.Test.YtdlcckkphjpeoaaGreatQD
import Derived.Test.YtdlcckkphjpeoaaGreatAwake
/-! FnTurnPoint: the walk. hray: Segment.Raycast. -/
set_option linter.unusedSimpArgs false
set_option linter.unusedVariables false
namespace JR
open Go Go.RowKit PF
/-- a shape, all of it in new blocks -/
def Ent.shp (K : Int) (l : List (Int × Int)) (H : List (List (Int × Int))) : Ent :=
  .rel (fun v lo hi w => ∃ x y, v = .agg #[.int .i64 K, x, y] ∧ SlR lo hi w x l ∧ SlHR lo hi w y H) (fun _ _ _ _ _ hk ⟨x, y, h1, h2, h3⟩ => ⟨x, y, h1, h2.keep hk, h3.keep hk⟩)
end JR
namespace Go.Proofs.YtdlcckkphjpeoaaGreat
open Go.RowKit PF JR
theorem okP_m {l : List (Int × Int)} (h : l.all okP = true) : ∀ p ∈ l, p.1.natAbs ≤ 1024 ∧ p.2.natAbs ≤ 1024 := by
  intro p hp
  have := List.all_eq_true.1 h p hp
  simp [okP] at this
  omega
theorem tpt_bn4 {K S DX DY : Int} (hK : 0 ≤ K ∧ K ≤ 7) (hS : 1 ≤ S ∧ S ≤ 8) (hD : -4096 ≤ DX ∧ DX ≤ 4096 ∧ -4096 ≤ DY ∧ DY ≤ 4096) (p : Int × Int) (h : p.1.natAbs ≤ 1024 ∧ p.2.natAbs ≤ 1024) : Bn4 (tpt K S DX DY p) := by
  obtain ⟨x, y⟩ := p
  simp only at h
  have h1 : (x * S).natAbs ≤ 1024 * 8 := mul_bnd h.1 (by omega)
  have h2 : (y * S).natAbs ≤ 1024 * 8 := mul_bnd h.2 (by omega)
  obtain ⟨k0, k7⟩ := hK
  have hk : K = 0 ∨ K = 1 ∨ K = 2 ∨ K = 3 ∨ K = 4 ∨ K = 5 ∨ K = 6 ∨ K = 7 := by omega
  unfold Bn4
  rcases hk with rfl | rfl | rfl | rfl | rfl | rfl | rfl | rfl <;> simp only [tpt0, tpt1, tpt2, tpt3, tpt4, tpt5, tpt6, tpt7] <;> omega
theorem _root_.PF.SlP.one_of {w u : World} {L : List (Nat × Array Value × TypeId)} (h : Blk w u L) (i : Nat) {b : Nat} {T : TypeId} {p : Int × Int} (hi : L[i]? = some (b, #[.int .i64 p.1, .int .i64 p.2], T)) : SlP u (.slice (some ⟨b, 0, none⟩) 1 1) [p] := by
  have c0 := h.cell i hi 0
  have c1 := h.cell i hi 1
  simp only [List.getElem?_toArray, List.getElem?_cons_zero, List.getElem?_cons_succ] at c0 c1
  refine ⟨_, 1, rfl, fun k q hq => ?_⟩
  rcases k with _ | k
  · simp at hq
    subst hq
    exact ⟨_, 0, rfl, by simpa using c0, by simpa using c1⟩
  · simp at hq
theorem _root_.PF.SlH.none {w : World} : SlH w (.slice Option.none 0 0) [] := ⟨Option.none, 0, rfl, fun k x hx => by simp at hx⟩
theorem bn4_bnd {p : Int × Int} (h : Bn4 p) : Bnd p := by unfold Bn4 at h; unfold Bnd; omega
set_option maxRecDepth 100000 in
set_option maxHeartbeats 4000000 in
theorem turnPoint_c (KK S DX DY : Int) (hK0 : 0 ≤ KK) (K : Int) (l : List (Int × Int)) (H : List (List (Int × Int))) (hl0 : l.length ≤ 9223372036854775807) (hH0 : H.length ≤ 9223372036854775807) (hl1 : ∀ h ∈ H, h.length ≤ 9223372036854775807)
    (p : Int × Int) (KD : Nat) (hKD : KD ≤ 255) (v vh : Value) (w : World) (hv : SlP w v l) (hh : SlH w vh H)
    (hray : ∀ (x : List (Int × Int)) (q : Int × Int), (∀ r ∈ x, Bn4 r) → Bn4 q → ∀ k, RayAt x q k) :
    Calls Tryz.prog 3 #[.agg #[.int .u8 KK, .int .i64 S, .int .i64 DX, .int .i64 DY], .agg #[.int .i64 K, v, vh], .agg #[.int .i64 p.1, .int .i64 p.2], .int .u8 KD] w fun e w' => e = .returned (.bool true) ∧ Below w.heap.size w w' := by
  have st0 := (((Blk.nil w).push rfl #[.int .u8 KK, .int .i64 S, .int .i64 DX, .int .i64 DY] 23).push (b := w.heap.size + 1) (by simp) #[.int .i64 K, v, vh] 27).push (b := w.heap.size + 1 + 1) (by simp) #[.int .i64 p.1, .int .i64 p.2] 29
  have s0 := hv.below st0.hb
  have h0 := hh.below st0.hb
  have c0 := st0.cell 1 rfl 0
  have c1 := st0.cell 1 rfl 1
  have c2 := st0.cell 1 rfl 2
  simp only [List.getElem?_toArray, List.getElem?_cons_zero, List.getElem?_cons_succ] at c0 c1 c2
  clear hv hh
  go_enter Tryz.func3, Tryz.ntmps3
  go_wp2_with (go_at_call 6; refine JR.StopM.out ?_)
  refine ⟨?_⟩
  refine (fits7_c K l H hl0 hH0 hl1 v vh _ s0 h0).mono ?_
  rintro e w1 ⟨rfl, hb⟩
  have st1 := st0.ext hb
  have s1 := s0.below hb
  have h1 := h0.below hb
  clear hb st0 s0 h0 c0 c1 c2
  generalize hfit : (decide (l.length ≤ 2147483647) && (decide (H.length ≤ 2147483647) && H.all fun h => decide (h.length ≤ 2147483647))) = fit
  cases fit with
  | false =>
    clear hfit
    go_wp2
    go_ret
    exact ⟨rfl, st1.hb⟩
  | true =>
    simp only [Bool.and_eq_true, decide_eq_true_eq, List.all_eq_true] at hfit
    obtain ⟨l1, l2, l3⟩ := hfit
    have q0 := st1.cell 2 rfl 0
    have q1 := st1.cell 2 rfl 1
    have q2 := st1.cell 2 rfl 2
    have q3 := st1.cell 2 rfl 3
    simp only [List.getElem?_toArray, List.getElem?_cons_zero, List.getElem?_cons_succ] at q0 q1 q2 q3
    go_wp2_with (go_at_call 7; refine JR.StopM.out ?_)
    refine ⟨?_⟩
    refine (ivt_c KK S DX DY _).mono ?_
    rintro e w2 ⟨rfl, hb⟩
    have st2 := st1.ext hb
    have s2 := s1.below hb
    have h2 := h1.below hb
    clear hb st1 s1 h1 q0 q1 q2 q3
    generalize hivt : decide (KK ≤ 7 ∧ 1 ≤ S ∧ S ≤ 8 ∧ -4096 ≤ DX ∧ DX ≤ 4096 ∧ -4096 ≤ DY ∧ DY ≤ 4096) = ivt
    cases ivt with
    | false =>
      clear hivt l3
      go_wp2_with (go_at_call 10; refine JR.StopM.out ?_)
      refine ⟨?_⟩
      refine (awake_c _).mono ?_
      rintro e w3 ⟨rfl, hb⟩
      have st3 := st2.ext hb
      go_wp2
      go_ret
      exact ⟨rfl, st3.hb⟩
    | true =>
      have hivt := of_decide_eq_true hivt
      have b0 : 0 ≤ KK ∧ KK ≤ 7 := ⟨hK0, hivt.1⟩
      have b2 : 1 ≤ S ∧ S ≤ 8 := ⟨hivt.2.1, hivt.2.2.1⟩
      have b4 : -4096 ≤ DX ∧ DX ≤ 4096 ∧ -4096 ≤ DY ∧ DY ≤ 4096 := hivt.2.2.2
      have b3 : -65536 ≤ DX ∧ DX ≤ 65536 ∧ -65536 ≤ DY ∧ DY ≤ 65536 := by omega
      clear hivt
      have c0 := st2.cell 1 rfl 0
      have c1 := st2.cell 1 rfl 1
      have c2 := st2.cell 1 rfl 2
      simp only [List.getElem?_toArray, List.getElem?_cons_zero, List.getElem?_cons_succ] at c0 c1 c2
      have hiv := isVaryS_c K l H l1 l3 v vh _ s2 h2
      clear l1 l2 l3
      go_wp2_with (go_at_call 8; refine JR.StopM.out ?_)
      refine ⟨?_⟩
      refine hiv.mono ?_
      rintro e w3 ⟨ok, rfl, hV, hb⟩
      have st3 := st2.ext hb
      have s3 := s2.below hb
      have h3 := h2.below hb
      clear hb st2 s2 h2 c0 c1 c2 hiv
      cases ok with
      | false =>
        clear hV
        go_wp2_with (go_at_call 10; refine JR.StopM.out ?_)
        refine ⟨?_⟩
        refine (awake_c _).mono ?_
        rintro e w4 ⟨rfl, hb⟩
        have st4 := st3.ext hb
        go_wp2
        go_ret
        exact ⟨rfl, st4.hb⟩
      | true =>
        have hVs := hV rfl
        clear hV
        have c0 := st3.cell 1 rfl 0
        simp only [List.getElem?_toArray, List.getElem?_cons_zero, List.getElem?_cons_succ] at c0
        by_cases hK3 : K = 3
        case neg =>
          clear hVs
          have hK3b : (K == 3) = false := beq_eq_false_iff_ne.2 hK3
          go_wp2_with (go_at_call 10; refine JR.StopM.out ?_)
          refine ⟨?_⟩
          refine (awake_c _).mono ?_
          rintro e w4 ⟨rfl, hb⟩
          have st4 := st3.ext hb
          go_wp2
          go_ret
          exact ⟨rfl, st4.hb⟩
        case pos =>
          subst hK3
          have y0 := st3.cell 0 rfl 0
          have y1 := st3.cell 0 rfl 1
          simp only [List.getElem?_toArray, List.getElem?_cons_zero, List.getElem?_cons_succ] at y0 y1
          have st4 := st3.push (b := w3.heap.size) rfl #[.int .i64 p.1, .int .i64 p.2] 29
          have sp := SlP.one_of st4 0 rfl
          have hvp := varyPoints_c [p] 1 1 (by simp) _ _ sp
          generalize hvq : decide ((1 : Int) ≤ [p].length ∧ ([p].length : Int) ≤ 1 ∧ [p].all okP = true) = vq at *
          go_wp2_with (go_at_call 9; refine JR.StopM.out ?_)
          refine ⟨?_⟩
          refine hvp.mono ?_
          rintro e w5 ⟨rfl, hb⟩
          have hb35 := (((Below.refl _ w3).alloc (Nat.le_refl _) (.cells #[.int .i64 p.1, .int .i64 p.2] 29)).trans (hb.mono (by simp)))
          have st5 := st3.ext hb35
          have s5 := s3.below hb35
          have h5 := h3.below hb35
          clear hb st3 st4 sp hvp c0 y0 y1 s3 h3 hb35
          cases vq with
          | false =>
            clear hVs hvq
            go_wp2_with (go_at_call 10; refine JR.StopM.out ?_)
            refine ⟨?_⟩
            refine (awake_c _).mono ?_
            rintro e wA ⟨rfl, hbA⟩
            have stA := st5.ext hbA
            go_wp2
            go_ret
            exact ⟨rfl, stA.hb⟩
          | true =>
            have hp := okP_m (of_decide_eq_true hvq).2.2 p (by simp)
            have hVp : VaryS 0 [p] [] := ⟨(of_decide_eq_true hvq).2.2, by simp, fun _ => rfl, fun h hh => (nomatch hh), .inl ⟨rfl, rfl⟩⟩
            obtain ⟨hok, hH3, hHn, hHs, hKl⟩ := id hVs
            have hl3 : 3 ≤ l.length ∧ l.length ≤ 12 := by
              rcases hKl with ⟨h, -⟩ | ⟨h, -⟩ | ⟨h, -⟩ | ⟨-, h⟩
              · cases h
              · cases h
              · cases h
              · exact h
            have hml := okP_m hok
            have okl : okK l := ⟨by omega, trivial, hl3.2, fun q hq => by have := hml q hq; unfold Bnd; omega⟩
            have okH : ∀ x ∈ H, okK x := fun x hx => ⟨by have := (hHs x hx).1; omega, trivial, by have := (hHs x hx).2.1; omega, fun q hq => by have := okP_m (hHs x hx).2.2 q hq; unfold Bnd; omega⟩
            have ray1 : ∀ x, (x = l ∨ x ∈ H) → ∀ k, k < nSeg true x → RayAt x p k := fun x hx k _ => by
              refine hray x p (fun q hq => ?_) (by unfold Bn4; omega) k
              rcases hx with rfl | hx
              · have := hml q hq; unfold Bn4; omega
              · have := okP_m (hHs x hx).2.2 q hq; unfold Bn4; omega
            have okl' : okK (l.map (tpt KK S DX DY)) := ⟨by simp; omega, trivial, by simp; omega, fun q hq => by
              simp only [List.mem_map] at hq
              obtain ⟨r, hr, rfl⟩ := hq
              exact bn4_bnd (tpt_bn4 b0 b2 b4 r (hml r hr))⟩
            have okH' : ∀ x ∈ H.map (fun x => x.map (tpt KK S DX DY)), okK x := fun x hx => by
              simp only [List.mem_map] at hx
              obtain ⟨y, hy, rfl⟩ := hx
              refine ⟨by have := (hHs y hy).1; simp; omega, trivial, by have := (hHs y hy).2.1; simp; omega, fun q hq => ?_⟩
              simp only [List.mem_map] at hq
              obtain ⟨r, hr, rfl⟩ := hq
              exact bn4_bnd (tpt_bn4 b0 b2 b4 r (okP_m (hHs y hy).2.2 r hr))
            have ray2 : ∀ x, (x = l.map (tpt KK S DX DY) ∨ x ∈ H.map (fun x => x.map (tpt KK S DX DY))) → ∀ k, k < nSeg true x → RayAt x (tpt KK S DX DY p) k := fun x hx k _ => by
              refine hray x _ (fun q hq => ?_) (tpt_bn4 b0 b2 b4 p hp) k
              rcases hx with rfl | hx
              · simp only [List.mem_map] at hq
                obtain ⟨r, hr, rfl⟩ := hq
                exact tpt_bn4 b0 b2 b4 r (hml r hr)
              · simp only [List.mem_map] at hx
                obtain ⟨y, hy, rfl⟩ := hx
                simp only [List.mem_map] at hq
                obtain ⟨r, hr, rfl⟩ := hq
                exact tpt_bn4 b0 b2 b4 r (okP_m (hHs y hy).2.2 r hr)
            have hpm := polHas_map (good_tpt KK S DX DY (by omega)) (l := l) (H := H) (p := p) hl3.1 (fun x hx => (hHs x hx).1)
            have hpb : Bnd p := by unfold Bnd; omega
            have hpb' := bn4_bnd (tpt_bn4 b0 b2 b4 p hp)
            obtain ⟨ki, hki, hki2⟩ : ∃ ki : Nat, KD % 3 = ki ∧ ki ≤ 2 := ⟨KD % 3, rfl, by omega⟩
            have hrem : (KD : Int).tmod 3 = (ki : Int) := by rw [Int.tmod_eq_emod_of_nonneg (by omega)]; omega
            have wk1 : IntKind.i64.wrap (ki : Int) = (ki : Int) := by
              unfold IntKind.wrap
              simp [IntKind.bits, IntKind.signed]
              omega
            have ask1 := fun u hu hu2 vp hvp vq hvq => askPtH_c ki hki2 l H okl okH (by omega) p hpb ray1 v vh vp vq u hu hu2 hvp hvq
            have ask2 := fun u v2 vh2 hu hu2 vp hvp vq hvq => askPtH_c ki hki2 _ _ okl' okH' (by simp; omega) _ hpb' ray2 v2 vh2 vp vq u hu hu2 hvp hvq
            rw [hpm] at ask2
            have vs1 := fun u hu hu' => varyShapeR_c KK S DX DY b0 b2 b3 3 l H hVs (by decide) v vh u hu hu'
            have vs2 := fun vp vq u hu hu' => varyShapeR_c KK S DX DY b0 b2 b3 0 [p] [] hVp (by decide) vp vq u hu hu'
            simp only [List.map_cons, List.map_nil] at vs2
            clear hpm ray1 ray2 okl okH okl' okH' hml hHs hHn hH3 hok hKl hray hVp hVs b0 b2 b3 b4 hvq hpb hpb' hki hl3 hl0 hH0 hl1 hp hK0
            obtain ⟨r, hr⟩ : ∃ r, polHas l H p = r := ⟨_, rfl⟩
            simp only [hr] at ask1 ask2
            clear hr
            have y0 := st5.cell 0 rfl 0
            have y1 := st5.cell 0 rfl 1
            have x0 := st5.cell 1 rfl 0
            have x1 := st5.cell 1 rfl 1
            have x2 := st5.cell 1 rfl 2
            simp only [List.getElem?_toArray, List.getElem?_cons_zero, List.getElem?_cons_succ] at y0 y1 x0 x1 x2
            have st6 := (st5.push (b := w5.heap.size) rfl #[.int .i64 p.1, .int .i64 p.2] 29).push (b := w5.heap.size + 1) (by simp) #[.int .i64 0, .slice (some ⟨w5.heap.size, 0, none⟩) 1 1, .slice none 0 0] 27
            have hb56 := ((Below.refl w5.heap.size w5).alloc (Nat.le_refl _) (.cells #[.int .i64 p.1, .int .i64 p.2] 29)).alloc (by simp) (.cells #[.int .i64 0, .slice (some ⟨w5.heap.size, 0, none⟩) 1 1, .slice none 0 0] 27)
            have s6 := s5.below hb56
            have h6 := h5.below hb56
            have sp6 := SlP.one_of st6 1 rfl
            have g1 := st5.lt 1 rfl
            have g0 := st5.lt 0 rfl
            have z0 := st6.cell 3 rfl 0
            have z1 := st6.cell 3 rfl 1
            have z2 := st6.cell 3 rfl 2
            have z3 := st6.cell 0 rfl 0
            have z4 := st6.cell 0 rfl 1
            have z5 := st6.cell 0 rfl 2
            simp only [List.getElem?_toArray, List.getElem?_cons_zero, List.getElem?_cons_succ] at z0 z1 z2 z3 z4 z5
            clear s5 h5 hb56
            go_wp2_with (go_at_call 11; refine JR.StopM.out ?_)
            refine ⟨?_⟩
            refine (ask1 _ s6 h6 _ sp6 _ SlH.none).mono ?_
            rintro e w7 ⟨rfl, hb⟩
            have st7 := st6.ext hb
            have s7 := s6.below hb
            have h7 := h6.below hb
            have sp7 := sp6.below hb
            clear hb st6 s6 h6 sp6 ask1 y0 y1 x0 x1 x2 g0 g1 st5 z0 z1 z2 z3 z4 z5
            go_wp2
            refine wp_region_K [] [.val (.agg #[.int .u8 KK, .int .i64 S, .int .i64 DX, .int .i64 DY]), .val (.agg #[.int .i64 3, v, vh]), .shp 3 (l.map (tpt KK S DX DY)) (H.map fun x => x.map (tpt KK S DX DY)), .val (.agg #[.int .u8 KK, .int .i64 S, .int .i64 DX, .int .i64 DY]), .val (.agg #[.int .i64 0, .slice (some ⟨w5.heap.size, 0, none⟩) 1 1, .slice none 0 0]), .shp 0 [tpt KK S DX DY p] [], .val (.int .u8 KD), .val (.int .u8 ki), .val (.int .i64 ki),
                .val (.tuple #[.bool r, .bool r]), .val (.tuple #[.bool r, .bool r]), .val (.bool r), .val (.bool r), .val (.bool r), .val (.bool r)]
              [[.ini 4], [.ini 5], [.frm 0 50, .frm 1 51], [.ini 4], [.ini 9], [.frm 3 53, .frm 4 54], [.ini 3], [.frm 6 56], [.frm 7 57], [.frm 2 52, .frm 5 55, .frm 8 58], [.frm 9 59], [.frm 10 49], [.frm 10 49], [.frm 11 60], [.frm 12 61]]
              mixed (by kernel_rfl) (by kernel_rfl) (allPre_of ⟨trivial, trivial, trivial, trivial, trivial, trivial, trivial, trivial, trivial, trivial, trivial, trivial, trivial, trivial, trivial, trivial⟩)
              ⟨OpOk.quiet rfl ?_, OpOk.quiet rfl ?_, OpOk.call rfl ?_, OpOk.quiet rfl ?_, OpOk.quiet rfl ?_, OpOk.call rfl ?_, OpOk.quiet rfl ?_, OpOk.quiet rfl ?_, OpOk.quiet rfl ?_, OpOk.call rfl ?_, OpOk.quiet rfl ?_, OpOk.quiet rfl ?_, OpOk.quiet rfl ?_, OpOk.quiet rfl ?_, OpOk.quiet rfl ?_, trivial⟩ ?_
            · intro a u hG hf
              simp [facts, Need.fact, Act.eval] at hf
              have stu := st7.keep hG (fun i x _ => by simp) (fun x hx => by simp at hx)
              have y0 := stu.cell 4 rfl 0
              have y1 := stu.cell 4 rfl 1
              have y2 := stu.cell 4 rfl 2
              have y3 := stu.cell 4 rfl 3
              simp only [List.getElem?_toArray, List.getElem?_cons_zero, List.getElem?_cons_succ] at y0 y1 y2 y3
              go_simp
            · intro a u hG hf
              simp [facts, Need.fact, Act.eval] at hf
              have stu := st7.keep hG (fun i x _ => by simp) (fun x hx => by simp at hx)
              have y0 := stu.cell 3 rfl 0
              have y1 := stu.cell 3 rfl 1
              have y2 := stu.cell 3 rfl 2
              simp only [List.getElem?_toArray, List.getElem?_cons_zero, List.getElem?_cons_succ] at y0 y1 y2
              go_simp
            · intro a u hG hf
              simp [facts, Need.fact, Ent.val, Act.eval] at hf
              refine ⟨_, _, by go_simp, (vs1 u (s7.below hG.below) (h7.below hG.below)).mono ?_⟩
              rintro e w' ⟨x, y, rfl, g1, g2, hb⟩
              exact ⟨_, rfl, hb, x, y, rfl, g1, g2⟩
            · intro a u hG hf
              simp [facts, Need.fact, Act.eval] at hf
              have stu := st7.keep hG (fun i x _ => by simp) (fun x hx => by simp at hx)
              have y0 := stu.cell 4 rfl 0
              have y1 := stu.cell 4 rfl 1
              have y2 := stu.cell 4 rfl 2
              have y3 := stu.cell 4 rfl 3
              simp only [List.getElem?_toArray, List.getElem?_cons_zero, List.getElem?_cons_succ] at y0 y1 y2 y3
              go_simp
            · intro a u hG hf
              simp [facts, Need.fact, Act.eval] at hf
              have stu := st7.keep hG (fun i x _ => by simp) (fun x hx => by simp at hx)
              have y0 := stu.cell 0 rfl 0
              have y1 := stu.cell 0 rfl 1
              have y2 := stu.cell 0 rfl 2
              simp only [List.getElem?_toArray, List.getElem?_cons_zero, List.getElem?_cons_succ] at y0 y1 y2
              go_simp
            · intro a u hG hf
              simp [facts, Need.fact, Ent.val, Act.eval] at hf
              refine ⟨_, _, by go_simp, (vs2 _ _ u (sp7.below hG.below) SlH.none).mono ?_⟩
              rintro e w' ⟨x, y, rfl, g1, g2, hb⟩
              exact ⟨_, rfl, hb, x, y, rfl, g1, g2⟩
            · intro a u _ hf
              simp [facts, Need.fact, Ent.val, Act.eval] at hf
              go_simp
            · intro a u _ hf
              simp [facts, Need.fact, Ent.val, Act.eval] at hf
              go_simp
            · intro a u _ hf
              simp [facts, Need.fact, Ent.val, Act.eval] at hf
              go_simp
            · intro a u hG hf
              obtain ⟨⟨_, _, x, y, hx, g1, g2⟩, ⟨_, _, x', y', hx', g3, g4⟩, ⟨_, _, h58⟩, -⟩ := hf
              have e1 : a.eval (.tmp 52) = .agg #[.int .i64 3, x, y] := hx
              have e2 : a.eval (.tmp 55) = .agg #[.int .i64 0, x', y'] := hx'
              have e3 : a.eval (.tmp 58) = .int .i64 ki := h58
              clear hx hx' h58
              simp [Act.eval] at e1 e2 e3
              refine ⟨_, _, by go_simp, (ask2 u x y g1.p g2.h x' g3.p y' g4.h).mono ?_⟩
              rintro e w' ⟨rfl, hb⟩
              exact ⟨_, rfl, hb, rfl⟩
            · intro a u _ hf
              simp [facts, Need.fact, Ent.val, Act.eval] at hf
              go_simp
            · intro a u _ hf
              simp [facts, Need.fact, Ent.val, Act.eval] at hf
              go_simp
            · intro a u _ hf
              simp [facts, Need.fact, Ent.val, Act.eval] at hf
              go_simp
            · intro a u _ hf
              simp [facts, Need.fact, Ent.val, Act.eval] at hf
              go_simp
            · intro a u _ hf
              simp [facts, Need.fact, Ent.val, Act.eval] at hf
              go_simp
            intro u lw hw wc hKp hE hI hD
            simp only [allE, Ent.val] at hE
            obtain ⟨u0, u1, -, u3, u4, -, u6, u7, u8, u9, u10, u11, u12, u13, u14, -⟩ := hE
            simp only [Nat.reduceAdd] at u0 u1 u3 u4 u6 u7 u8 u9 u10 u11 u12 u13 u14
            simp only [allPut, Act.put, Nat.reduceAdd, u0, u1, u3, u4, u6, u7, u8, u9, u10, u11, u12, u13, u14]
            try simp only [List.setIfInBounds_toArray, List.set_cons_zero, List.set_cons_succ]
            clear hI hD u0 u1 u3 u4 u6 u7 u8 u9 u10 u11 u12 u13 u14 ask2 vs1 vs2
            have st8 := st7.keep hKp (fun i x _ => by simp) (fun x hx => by simp at hx)
            generalize u 2 = y2 at *
            generalize u 5 = y5 at *
            clear hKp st7 s7 h7 sp7
            cases r <;>
            · go_wp2_with (go_at_call 10; refine JR.StopM.out ?_)
              refine ⟨?_⟩
              refine (awake_c _).mono ?_
              rintro e wA ⟨rfl, hbA⟩
              have stA := st8.ext hbA
              go_wp2
              go_ret
              exact ⟨rfl, stA.hb⟩
end Go.Proofs.YtdlcckkphjpeoaaGreat
