import Derived.Test.YtlpibeloedfbdaaGreatQU
import Derived.Test.YtlpibeloedfbdaaGreatWh
import Derived.Test.YtlpibeloedfbdaaGreatQW
import Derived.Test.YtlpibeloedfbdaaGreatQO
import Derived.Test.YtlpibeloedfbdaaGreatQN
import Derived.Test.YtlpibeloedfbdaaGreatSg
import Derived.Test.YtlpibeloedfbdaaGreatVn
set_option linter.unusedSimpArgs false
set_option linter.unusedVariables false
/-! What a shape contains is kept when a ring begins elsewhere (plain). -/
namespace Go.Proofs.YtlpibeloedfbdaaGreat
open Go.RowKit PF JR
section
variable {l l' m m' : List (Int × Int)} {p : Int × Int}
theorem any_at (m : List (Int × Int)) (F : Int × Int → Bool) : allN (fun k => F (at' m k)) m.length = m.all F := by
  unfold allN
  rw [pts_any m (fun q => !F q), List.all_eq_not_any_not]
theorem bcB_all (hm : 0 < m.length) (R : Int × Int × Int × Int) : bcB R (box m) = m.all (fun q => inB R q) := by
  obtain ⟨h, ⟨p1, a1, b1⟩, ⟨p2, a2, b2⟩, ⟨p3, a3, b3⟩, ⟨p4, a4, b4⟩⟩ := box_spec m hm
  unfold bcB inB
  rw [Bool.eq_iff_iff, decide_eq_true_iff, List.all_eq_true]
  constructor
  · rintro ⟨e1, e2, e3, e4⟩ q hq
    have := h q hq
    rw [decide_eq_true_iff]
    omega
  · intro g
    have g1 := of_decide_eq_true (g p1 a1)
    have g2 := of_decide_eq_true (g p2 a2)
    have g3 := of_decide_eq_true (g p3 a3)
    have g4 := of_decide_eq_true (g p4 a4)
    omega
theorem has_in (h : ringHas l p true = true) : inB (ppB true l) p = true := by
  unfold ringHas at h
  rw [Bool.and_eq_true] at h
  exact h.1
theorem rchV_all {cl : Bool} (hm : 0 < m.length) (hb : ppB cl m = box m) : rchV l cl m = m.all (fun q => ringHas l q true) := by
  unfold rchV
  rw [hb, bcB_all hm, any_at m (fun q => ringHas l q true), Bool.eq_iff_iff, Bool.and_eq_true, List.all_eq_true, List.all_eq_true]
  exact ⟨fun h => h.2, fun h => ⟨fun q hq => has_in (h q hq), h⟩⟩
end
end Go.Proofs.YtlpibeloedfbdaaGreat
set_option linter.unusedSimpArgs false
set_option linter.unusedVariables false
/-! Plain: a polygon whose ring is alike meets what it met. -/
namespace Go.Proofs.YtlpibeloedfbdaaGreat
open Go.RowKit PF JR
theorem okP_m {l : List (Int × Int)} (h : l.all okP = true) : ∀ p ∈ l, p.1.natAbs ≤ 1024 ∧ p.2.natAbs ≤ 1024 := by
  intro p hp
  have := List.all_eq_true.1 h p hp
  simp [okP] at this
  omega
theorem shOk_of {K : Int} {l : List (Int × Int)} {H : List (List (Int × Int))} (h : VaryS K l H) : ShOk K l H := by
  obtain ⟨hok, h3, -, hs, hk⟩ := h
  refine ⟨fun p hp => by have := okP_m hok p hp; unfold Bn3; omega, h3, fun x hx => ?_, ?_⟩
  · obtain ⟨g1, g2, g3⟩ := hs x hx
    exact ⟨g1, by omega, fun p hp => by have := okP_m g3 p hp; unfold Bn3; omega⟩
  · rcases hk with ⟨rfl, h⟩ | ⟨rfl, a, b, c, d, h, h1, h2⟩ | ⟨rfl, h1, h2⟩ | ⟨rfl, h1, h2⟩
    · refine .inl ⟨rfl, ?_⟩
      match l, h with
      | [p], _ => exact ⟨p, rfl⟩
    · exact .inr (.inl ⟨rfl, a, b, c, d, h, h1, h2⟩)
    · exact .inr (.inr (.inl ⟨rfl, h1, h2⟩))
    · exact .inr (.inr (.inr ⟨rfl, h1, h2⟩))
end Go.Proofs.YtlpibeloedfbdaaGreat
set_option linter.unusedSimpArgs false
set_option linter.unusedVariables false
/-! spec.VaryConvex and laws.isConvexVary: what they say when they say yes. -/
namespace Go.Proofs.YtlpibeloedfbdaaGreat
open Go.RowKit PF JR
theorem _root_.PF.SlP.allU {w : World} {v : Value} {l : List (Int × Int)} (h : SlP w v l) (h0 : 0 < l.length) : ∃ b off c, v = .slice (some ⟨b, off, none⟩) l.length c ∧ b < w.heap.size ∧ ∀ j, j < l.length → w.cell? ⟨b, off + j * 2, none⟩ = some (.int .i64 (at' l j).1) ∧ w.cell? ⟨b, off + j * 2 + 1, none⟩ = some (.int .i64 (at' l j).2) := by
  obtain ⟨A, c, hv, hk⟩ := h
  obtain ⟨b, off, hA, h1, -⟩ := hk 0 (at' l 0) (at_get h0)
  subst hA
  refine ⟨b, off, c, hv, World.block_lt_of_cell? w _ h1, fun j hj => ?_⟩
  obtain ⟨b', off', hA2, h3, h4⟩ := hk j (at' l j) (at_get hj)
  cases hA2
  exact ⟨h3, h4⟩
theorem wrapAddU {k k1 : Nat} (h : k + 1 = k1) (hk : k ≤ 1000) : IntKind.i64.wrap ((k : Int) + 1) = (k1 : Int) := by
  subst h
  unfold IntKind.wrap
  simp [IntKind.bits, IntKind.signed]
  omega
/-- the turn of three points -/
def sd (a b c : Int × Int) : Int := side a.1 a.2 b.1 b.2 c.1 c.2
theorem sd_zcr (a b c : Int × Int) : sd a b c = zcr a b c := by
  unfold sd side zcr
  grind
def SgOk (way s : Int) : Prop := s ≠ 0 ∧ (0 < s ↔ 0 < way)
/-- all turns of a ring to one side -/
def VConv (l : List (Int × Int)) : Prop := 3 ≤ l.length ∧ ∃ way, ∀ i, i < l.length → SgOk way (sd (cyc l i) (cyc l (i + 1)) (cyc l (i + 2)))
theorem VConv.ppV {l : List (Int × Int)} (h : VConv l) : ppV true l = true := by
  obtain ⟨h3, way, h⟩ := h
  unfold PF.ppV tooS
  rw [if_neg (by simp; omega)]
  cases e : (cvs l l.length).1 with
  | false => rfl
  | true =>
    obtain ⟨⟨i, hi, g1⟩, ⟨j, hj, g2⟩⟩ := (cvs_conv l (by omega)).1 e
    obtain ⟨-, a1⟩ := h i hi
    obtain ⟨-, a2⟩ := h j hj
    rw [sd_zcr] at a1 a2
    unfold zc at g1 g2
    omega
theorem sd_c {a b c : Int × Int} (ha : Bn3 a) (hb : Bn3 b) (hc : Bn3 c) (w : World) :
    Calls Tryz.prog 21 #[.agg #[.int .i64 a.1, .int .i64 a.2], .agg #[.int .i64 b.1, .int .i64 b.2], .agg #[.int .i64 c.1, .int .i64 c.2]] w fun e w' => e = .returned (.int .i64 (sd a b c)) ∧ Below w.heap.size w w' := by
  unfold Bn3 at ha hb hc
  exact side_c _ _ _ _ _ _ (by omega) w
def VcP (l : List (Int × Int)) (w : World) (e : Ending) (w' : World) : Prop := ∃ b : Bool, e = .returned (.bool b) ∧ (b = true → VConv l) ∧ Below w.heap.size w w'
theorem VcP.no {l : List (Int × Int)} {w w' : World} {e : Ending} (h : e = .returned (.bool false)) (hb : Below w.heap.size w w') : VcP l w e w' := ⟨false, h, (fun h => by cases h), hb⟩
set_option maxRecDepth 100000 in
set_option maxHeartbeats 8000000 in
theorem vconv_c (l : List (Int × Int)) (hl : l.length ≤ 2147483647) (hbd : ∀ p ∈ l, Bn3 p) (v : Value) (w : World) (hv : SlP w v l) :
    Calls Tryz.prog 12 #[v] w (VcP l w) := by
  obtain ⟨A0, c0, rfl⟩ : ∃ A c, v = .slice A l.length c := hv.len
  by_cases h3 : (l.length : Int) < 3
  · clear hv hbd
    have h3' := decide_eq_true h3
    go_enter Tryz.func12, Tryz.ntmps12
    go_wp2
    go_ret
    exact VcP.no rfl (Below.refl _ _)
  by_cases h12 : (12 : Int) < (l.length : Int)
  · clear hv hbd
    have h3' := decide_eq_false h3
    have h12' := decide_eq_true h12
    go_enter Tryz.func12, Tryz.ntmps12
    go_wp2
    go_ret
    exact VcP.no rfl (Below.refl _ _)
  have hl3 : 3 ≤ l.length ∧ l.length ≤ 12 := by omega
  obtain ⟨b, o, c, hvv, ltb, hc⟩ := hv.allU (by omega)
  obtain ⟨rfl, rfl⟩ : A0 = some ⟨b, o, none⟩ ∧ c0 = c := by simpa using hvv
  have hln : ¬ l = [] := fun h => by rw [h] at hl3; simp at hl3
  have i0 : (0 : Int) < (l.length : Int) := by omega
  have i1 : (1 : Int) < (l.length : Int) := by omega
  have i2 : (2 : Int) < (l.length : Int) := by omega
  obtain ⟨g0, g1⟩ := hc 0 (by omega)
  obtain ⟨g2, g3⟩ := hc 1 (by omega)
  obtain ⟨g4, g5⟩ := hc 2 (by omega)
  have hway := fun u => sd_c (at_bn3 hbd 0) (at_bn3 hbd 1) (at_bn3 hbd 2) u
  obtain ⟨way, hw⟩ : ∃ z, sd (at' l 0) (at' l 1) (at' l 2) = z := ⟨_, rfl⟩
  simp only [hw] at hway
  clear hvv hv hw
  simp only [Nat.zero_mul, Nat.one_mul, Nat.add_zero, Nat.reduceMul] at g0 g1 g2 g3 g4 g5
  go_enter Tryz.func12, Tryz.ntmps12
  go_wp2
  refine wp_region_K [] [.val (.slice (some ⟨b, o, none⟩) l.length c0), .val (.pointer (some ⟨b, o, none⟩)), .val (.agg #[.int .i64 (at' l 0).1, .int .i64 (at' l 0).2]), .val (.slice (some ⟨b, o, none⟩) l.length c0), .val (.pointer (some ⟨b, o + 2, none⟩)), .val (.agg #[.int .i64 (at' l 1).1, .int .i64 (at' l 1).2]), .val (.slice (some ⟨b, o, none⟩) l.length c0), .val (.pointer (some ⟨b, o + 4, none⟩)), .val (.agg #[.int .i64 (at' l 2).1, .int .i64 (at' l 2).2]), .val (.int .i64 way), .val (.int .i64 way)]
    [[.ini 0], [.frm 0 18], [.frm 1 19], [.ini 0], [.frm 3 21], [.frm 4 22], [.ini 0], [.frm 6 24], [.frm 7 25], [.frm 2 20, .frm 5 23, .frm 8 26], [.frm 9 27]]
    mixed (by kernel_rfl) (by kernel_rfl) (allPre_of ⟨trivial, trivial, trivial, trivial, trivial, trivial, trivial, trivial, trivial, trivial, trivial, trivial⟩)
    ⟨OpOk.quiet rfl ?_, OpOk.quiet rfl ?_, OpOk.quiet rfl ?_, OpOk.quiet rfl ?_, OpOk.quiet rfl ?_, OpOk.quiet rfl ?_, OpOk.quiet rfl ?_, OpOk.quiet rfl ?_, OpOk.quiet rfl ?_, OpOk.call rfl ?_, OpOk.quiet rfl ?_, trivial⟩ ?_
  · intro a u _ hf
    simp [facts, Need.fact, Ent.val, Act.eval] at hf
    go_simp
    try (intro h; exact absurd h hln)
  · intro a u _ hf
    simp [facts, Need.fact, Ent.val, Act.eval] at hf
    go_simp
    try (intro h; exact absurd h hln)
  · intro a u hG hf
    simp [facts, Need.fact, Ent.val, Act.eval] at hf
    have y0 := (hG.cell (p := ⟨b, o, none⟩) ltb (by simp)).trans g0
    have y1 := (hG.cell (p := ⟨b, o + 1, none⟩) ltb (by simp)).trans g1
    go_simp
  · intro a u _ hf
    simp [facts, Need.fact, Ent.val, Act.eval] at hf
    go_simp
    try (intro h; exact absurd h hln)
  · intro a u _ hf
    simp [facts, Need.fact, Ent.val, Act.eval] at hf
    go_simp
    try (intro h; exact absurd h hln)
  · intro a u hG hf
    simp [facts, Need.fact, Ent.val, Act.eval] at hf
    have y0 := (hG.cell (p := ⟨b, o + 2, none⟩) ltb (by simp)).trans g2
    have y1 := (hG.cell (p := ⟨b, o + 2 + 1, none⟩) ltb (by simp)).trans g3
    have y2 := y1
    simp only [Nat.add_assoc, Nat.reduceAdd] at y2
    go_simp
  · intro a u _ hf
    simp [facts, Need.fact, Ent.val, Act.eval] at hf
    go_simp
    try (intro h; exact absurd h hln)
  · intro a u _ hf
    simp [facts, Need.fact, Ent.val, Act.eval] at hf
    go_simp
    try (intro h; exact absurd h hln)
  · intro a u hG hf
    simp [facts, Need.fact, Ent.val, Act.eval] at hf
    have y0 := (hG.cell (p := ⟨b, o + 4, none⟩) ltb (by simp)).trans g4
    have y1 := (hG.cell (p := ⟨b, o + 4 + 1, none⟩) ltb (by simp)).trans g5
    have y2 := y1
    simp only [Nat.add_assoc, Nat.reduceAdd] at y2
    go_simp
  · intro a u hG hf
    simp [facts, Need.fact, Ent.val, Act.eval] at hf
    refine ⟨_, _, by go_simp, (hway u).mono ?_⟩
    rintro e w' ⟨rfl, hb⟩
    exact ⟨_, rfl, hb, rfl⟩
  · intro a u _ hf
    simp [facts, Need.fact, Ent.val, Act.eval] at hf
    go_simp
    try (intro h; exact absurd h hln)
  intro u lw hw wc hKp hE hI hD
  simp only [allE, Ent.val] at hE
  obtain ⟨u0, u1, u2, u3, u4, u5, u6, u7, u8, u9, u10, -⟩ := hE
  simp only [Nat.reduceAdd] at u0 u1 u2 u3 u4 u5 u6 u7 u8 u9 u10
  simp only [allPut, Act.put, Nat.reduceAdd, u0, u1, u2, u3, u4, u5, u6, u7, u8, u9, u10]
  try simp only [List.setIfInBounds_toArray, List.set_cons_zero, List.set_cons_succ]
  clear hI hD u0 u1 u2 u3 u4 u5 u6 u7 u8 u9 u10 hway g0 g1 g2 g3 g4 g5 i0 i1 i2
  have B1 := hKp.below
  clear hKp
  go_wp2
  go_loopw [30] (fun i wr => ∃ k : Nat, k ≤ l.length ∧ i = .int .i64 k ∧ (∀ j, j < k → SgOk way (sd (cyc l j) (cyc l (j + 1)) (cyc l (j + 2)))) ∧ Below w.heap.size w wr) (fun i _ => l.length - (intOf i).toNat)
  case atStart => exact ⟨0, Nat.zero_le _, rfl, fun j hj => absurd hj (Nat.not_lt_zero _), B1⟩
  case round =>
    clear B1
    obtain ⟨k, hkl, rfl, hall, hB⟩ := hrel
    obtain ⟨wo, rfl⟩ : ∃ x, x = wr := ⟨wr, rfl⟩
    rcases Nat.lt_or_ge k l.length with hlt | hge
    · have hlt' : (k : Int) < (l.length : Int) := by omega
      obtain ⟨kk, hkk⟩ : ∃ kk, k + 1 = kk := ⟨_, rfl⟩
      have wk := wrapAddU hkk (by omega)
      obtain ⟨k1, hk1', hk1l⟩ : ∃ k1, kk % l.length = k1 ∧ k1 < l.length := ⟨_, rfl, Nat.mod_lt _ (by omega)⟩
      have hk1 : (k + 1) % l.length = k1 := by rw [hkk]; exact hk1'
      have hk1i : (k1 : Int) < (l.length : Int) := by omega
      have hrem : (kk : Int).tmod (l.length : Int) = (k1 : Int) := by rw [Int.tmod_eq_emod_of_nonneg (by omega)]; omega
      have hne0 : ((l.length : Int) == 0) = false := beq_eq_false_iff_ne.2 (by omega)
      obtain ⟨g0, g1⟩ := hc k hlt
      obtain ⟨g2, g3⟩ := hc k1 hk1l
      have g0 := (hB.cell (p := ⟨b, o + k * 2, none⟩) ltb).trans g0
      have g1 := (hB.cell (p := ⟨b, o + k * 2 + 1, none⟩) ltb).trans g1
      have g2 := (hB.cell (p := ⟨b, o + k1 * 2, none⟩) ltb).trans g2
      have g3 := (hB.cell (p := ⟨b, o + k1 * 2 + 1, none⟩) ltb).trans g3
      have ltr := Nat.lt_of_lt_of_le ltb hB.size
      have st1 := ((Blk.nil wo).push rfl #[.int .i64 (at' l k).1, .int .i64 (at' l k).2] 65).push (b := wo.heap.size + 1) (by simp) #[.int .i64 (at' l k1).1, .int .i64 (at' l k1).2] 65
      go_wp2
      go_loopw [45] (fun i wr => ∃ x : Nat, x ≤ l.length ∧ i = .int .i64 x ∧ (∀ j, j < x → j ≠ k → j ≠ k1 → SgOk way (sd (at' l k) (at' l k1) (at' l j))) ∧ Blk wo wr [(wo.heap.size + 1, #[.int .i64 (at' l k1).1, .int .i64 (at' l k1).2], 65), (wo.heap.size, #[.int .i64 (at' l k).1, .int .i64 (at' l k).2], 65)]) (fun i _ => l.length - (intOf i).toNat)
      case atStart => exact ⟨0, Nat.zero_le _, rfl, fun j hj => absurd hj (Nat.not_lt_zero _), st1⟩
      case round =>
        clear st1 g0 g1 g2 g3
        obtain ⟨x, hxl, rfl, hin, hz⟩ := hrel
        have hBz := hB.trans (hz.hb.mono hB.size)
        rcases Nat.lt_or_ge x l.length with hlx | hgx
        · have hlx' : (x : Int) < (l.length : Int) := by omega
          obtain ⟨xx, hxx⟩ : ∃ xx, x + 1 = xx := ⟨_, rfl⟩
          have wx := wrapAddU hxx (by omega)
          obtain ⟨h0, h1⟩ := hc x hlx
          have h0 := (hBz.cell (p := ⟨b, o + x * 2, none⟩) ltb).trans h0
          have h1 := (hBz.cell (p := ⟨b, o + x * 2 + 1, none⟩) ltb).trans h1
          have st2 := hz.push (b := wr.heap.size) rfl #[.int .i64 (at' l x).1, .int .i64 (at' l x).2] 65
          have st2t := st2.tail
          have q0 := st2.cell 0 rfl 0
          have q1 := st2.cell 0 rfl 1
          have q2 := st2.cell 1 rfl 0
          have q3 := st2.cell 1 rfl 1
          have q4 := st2.cell 2 rfl 0
          have q5 := st2.cell 2 rfl 1
          simp only [List.getElem?_toArray, List.getElem?_cons_zero, List.getElem?_cons_succ] at q0 q1 q2 q3 q4 q5
          by_cases e1 : x = k
          · subst e1
            clear q0 q1 q2 q3 q4 q5 st2
            go_wp2
            go_roundw
            case rel => exact ⟨xx, by omega, rfl, fun j hj n1 n2 => hin j (by omega) n1 n2, st2t⟩
            case measure => simp [intOf]; omega
          have b1 : ((x : Int) == (k : Int)) = false := beq_eq_false_iff_ne.2 (by omega)
          by_cases e2 : x = k1
          · subst e2
            clear q0 q1 q2 q3 q4 q5 st2
            go_wp2
            go_roundw
            case rel => exact ⟨xx, by omega, rfl, fun j hj n1 n2 => hin j (by omega) n1 n2, st2t⟩
            case measure => simp [intOf]; omega
          have b2 : ((x : Int) == (k1 : Int)) = false := beq_eq_false_iff_ne.2 (by omega)
          have hsd := fun u => sd_c (at_bn3 hbd k) (at_bn3 hbd k1) (at_bn3 hbd x) u
          obtain ⟨s, hs⟩ : ∃ z, sd (at' l k) (at' l k1) (at' l x) = z := ⟨_, rfl⟩
          simp only [hs] at hsd
          go_wp2_with (go_at_call 21; refine JR.StopM.out ?_)
          refine ⟨?_⟩
          refine (hsd _).mono ?_
          rintro e w3 ⟨rfl, hb⟩
          have st3 := st2.ext hb
          have st3t := st3.tail
          have hB3 := hB.trans (st3.hb.mono hB.size)
          clear hb st2 st2t q0 q1 q2 q3 q4 q5 hsd h0 h1
          by_cases z0 : s = 0
          · have z1 : (s == 0) = true := by rw [z0]; rfl
            clear hs z0
            go_wp2
            go_ret
            exact VcP.no rfl hB3
          have z1 : (s == 0) = false := beq_eq_false_iff_ne.2 z0
          by_cases p1 : 0 < s <;> by_cases p2 : 0 < way
          · have p3 := decide_eq_true p1
            have p4 := decide_eq_true p2
            go_wp2
            go_roundw
            case rel => exact ⟨xx, by omega, rfl, fun j hj n1 n2 => by
              by_cases e : j = x
              · subst e; rw [hs]; exact ⟨z0, by omega⟩
              · exact hin j (by omega) n1 n2, st3t⟩
            case measure => simp [intOf]; omega
          · have p3 := decide_eq_true p1
            have p4 := decide_eq_false p2
            go_wp2
            go_ret
            exact VcP.no rfl hB3
          · have p3 := decide_eq_false p1
            have p4 := decide_eq_true p2
            go_wp2
            go_ret
            exact VcP.no rfl hB3
          · have p3 := decide_eq_false p1
            have p4 := decide_eq_false p2
            go_wp2
            go_roundw
            case rel => exact ⟨xx, by omega, rfl, fun j hj n1 n2 => by
              by_cases e : j = x
              · subst e; rw [hs]; exact ⟨z0, by omega⟩
              · exact hin j (by omega) n1 n2, st3t⟩
            case measure => simp [intOf]; omega
        · obtain rfl : x = l.length := by omega
          go_wp2
          go_roundw
          case rel => exact ⟨kk, by omega, rfl, fun j hj => by
            by_cases e : j = k
            · subst e
              have h2 := hin ((j + 2) % l.length) (Nat.mod_lt _ (by omega)) (by
                rcases Nat.lt_or_ge (j + 2) l.length with h | h
                · rw [Nat.mod_eq_of_lt h]; omega
                · rw [Nat.mod_eq_sub_mod h, Nat.mod_eq_of_lt (by omega)]; omega) (by
                rw [← hk1]
                rcases Nat.lt_or_ge (j + 2) l.length with h | h
                · rw [Nat.mod_eq_of_lt h, Nat.mod_eq_of_lt (by omega)]; omega
                · rw [Nat.mod_eq_sub_mod h, Nat.mod_eq_of_lt (show j + 2 - l.length < l.length by omega)]
                  rcases Nat.lt_or_ge (j + 1) l.length with h' | h'
                  · rw [Nat.mod_eq_of_lt h']; omega
                  · rw [Nat.mod_eq_sub_mod h', Nat.mod_eq_of_lt (by omega)]; omega)
              rw [cyc_at hlt]
              unfold cyc
              rw [hk1]
              exact h2
            · exact hall j (by omega), hBz⟩
          case measure => simp [intOf]; omega
    · obtain rfl : k = l.length := by omega
      go_wp2
      go_ret
      exact ⟨true, rfl, fun _ => ⟨hl3.1, way, hall⟩, hB⟩
end Go.Proofs.YtlpibeloedfbdaaGreat
