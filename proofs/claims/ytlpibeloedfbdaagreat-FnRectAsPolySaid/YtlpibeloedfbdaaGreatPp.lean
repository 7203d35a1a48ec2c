import Derived.Test.YtlpibeloedfbdaaGreatQS
import Derived.Test.YtlpibeloedfbdaaGreatVr
set_option linter.unusedSimpArgs false
set_option linter.unusedVariables false
/-! processPoints: the rectangle, the turns, the doubled area. -/
namespace PF
open Go Go.RowKit JR
def at' (l : List (Int × Int)) (k : Nat) : Int × Int := l.getD k (0, 0)
def nx1 (l : List (Int × Int)) (k : Nat) : Int × Int := if k + 1 = l.length then at' l 0 else at' l (k + 1)
def nx2 (l : List (Int × Int)) (k : Nat) : Int × Int := if k + 1 = l.length then at' l 1 else if k + 2 = l.length then at' l 0 else at' l (k + 2)
def twice (a b : Int × Int) : Int := (b.1 - a.1) * (b.2 + a.2)
def zcr (a b c : Int × Int) : Int := (b.1 - a.1) * (c.2 - b.2) - (b.2 - a.2) * (c.1 - b.1)
def cws (l : List (Int × Int)) : Nat → Int
  | 0 => 0
  | k + 1 => cws l k + twice (at' l k) (nx1 l k)
def cstep (s : Bool × Int) (z : Int) : Bool × Int :=
  if s.1 then s else if s.2 = 0 then (false, if z < 0 then -1 else if 0 < z then 1 else s.2)
  else if z < 0 then (decide (s.2 = 1), s.2) else if 0 < z then (decide (s.2 = -1), s.2) else (false, s.2)
def cvs (l : List (Int × Int)) : Nat → Bool × Int
  | 0 => (false, 0)
  | k + 1 => cstep (cvs l k) (zcr (at' l k) (nx1 l k) (nx2 l k))
theorem Blk.drewK {w u : World} {L : List (Nat × Array Value × TypeId)} (h : Blk w u L) (n : Nat) : Blk w (u.drewN n) L := ⟨h.known, below_drewN h.hb n⟩
theorem at_get {l : List (Int × Int)} {k : Nat} (h : k < l.length) : l[k]? = some (at' l k) := by
  unfold at'; simp [List.getD, h]
def Bnd (p : Int × Int) : Prop := p.1.natAbs ≤ 1000000 ∧ p.2.natAbs ≤ 1000000
theorem at_bnd {l : List (Int × Int)} (h : ∀ p ∈ l, Bnd p) (k : Nat) : Bnd (at' l k) := by
  rcases Nat.lt_or_ge k l.length with h1 | h1
  · exact h _ (List.mem_of_getElem? (at_get h1))
  · unfold at'; simp [List.getD, List.getElem?_eq_none h1, Bnd]
theorem nx1_bnd {l : List (Int × Int)} (h : ∀ p ∈ l, Bnd p) (k : Nat) : Bnd (nx1 l k) := by
  unfold nx1; split <;> exact at_bnd h _
theorem nx2_bnd {l : List (Int × Int)} (h : ∀ p ∈ l, Bnd p) (k : Nat) : Bnd (nx2 l k) := by
  unfold nx2; split
  · exact at_bnd h _
  · split <;> exact at_bnd h _
theorem mul_bnd {x y : Int} {m n : Nat} (hx : x.natAbs ≤ m) (hy : y.natAbs ≤ n) : (x * y).natAbs ≤ m * n := by
  rw [Int.natAbs_mul]; exact Nat.mul_le_mul hx hy
theorem twice_bnd {a b : Int × Int} (ha : Bnd a) (hb : Bnd b) : (twice a b).natAbs ≤ 4000000000000 :=
  mul_bnd (m := 2000000) (n := 2000000) (by have := ha.1; have := hb.1; omega) (by have := ha.2; have := hb.2; omega)
theorem cws_bnd {l : List (Int × Int)} (h : ∀ p ∈ l, Bnd p) : ∀ k, (cws l k).natAbs ≤ k * 4000000000000 := by
  intro k
  induction k with
  | zero => simp [cws]
  | succ k ih => have := twice_bnd (at_bnd h k) (nx1_bnd h k); simp only [cws]; omega
theorem bxs_le (l : List (Int × Int)) : ∀ b : Int × Int × Int × Int, b.1 ≤ b.2.2.1 → b.2.1 ≤ b.2.2.2 → (bxs l b).1 ≤ (bxs l b).2.2.1 ∧ (bxs l b).2.1 ≤ (bxs l b).2.2.2 := by
  induction l with
  | nil => intro b h1 h2; exact ⟨h1, h2⟩
  | cons p l ih => intro b h1 h2; simp only [bxs, List.foldl_cons]; exact ih _ (by simp only; omega) (by simp only; omega)
theorem bxs_bnd (l : List (Int × Int)) : ∀ b : Int × Int × Int × Int, (∀ p ∈ l, Bnd p) → Bnd (b.1, b.2.1) → Bnd (b.2.2.1, b.2.2.2) → Bnd ((bxs l b).1, (bxs l b).2.1) ∧ Bnd ((bxs l b).2.2.1, (bxs l b).2.2.2) := by
  induction l with
  | nil => intro b _ h1 h2; exact ⟨h1, h2⟩
  | cons p l ih =>
    intro b h h1 h2; simp only [bxs, List.foldl_cons]
    have hp := h p (by simp)
    refine ih _ (fun q hq => h q (by simp [hq])) ?_ ?_ <;> (unfold Bnd at *; simp only at *; omega)
end PF
namespace Go.Proofs.YtlpibeloedfbdaaGreat
open Go.RowKit PF JR
/-- what processPoints gives -/
def PpX (l : List (Int × Int)) (r : Int × Int × Int × Int) (w : World) (e : Ending) (w' : World) : Prop :=
  e = .returned (.tuple #[.bool (!(cvs l l.length).1), .agg #[fl (fb r.1), fl (fb r.2.1), fl (fb r.2.2.1), fl (fb r.2.2.2)], .bool (decide (0 < cws l l.length))]) ∧ Below w.heap.size w w'

theorem results_pp (T : Array Value) (n r0 r1 r2 r3 : Nat) (x y : Bool) (w : World) (h4 : T.getD 4 undef = .bool x) (h5 : T.getD 5 undef = .pointer (some ⟨n, 0, none⟩)) (h6 : T.getD 6 undef = .bool y)
    (z0 : w.cell? ⟨n, 0, none⟩ = some (fl r0)) (z1 : w.cell? ⟨n, 1, none⟩ = some (fl r1)) (z2 : w.cell? ⟨n, 2, none⟩ = some (fl r2)) (z3 : w.cell? ⟨n, 3, none⟩ = some (fl r3)) :
    (results Tryz.f42 T).run Tryz.prog w = .ok (.tuple #[.bool x, .agg #[fl r0, fl r1, fl r2, fl r3], .bool y]) w := by
  simp only [Array.getD_eq_getD_getElem?] at h4 h5 h6
  simp [results, Tryz.results42, go_sem, h4, h5, h6, z0, z1, z2, z3]

set_option maxRecDepth 100000 in
set_option maxHeartbeats 40000000 in
theorem processPoints_c (closed : Bool) (l : List (Int × Int)) (p0 : Int × Int) (h0 : l[0]? = some p0) (hl : l.length ≤ 1000) (hl2 : 2 ≤ l.length) (hl3 : closed = true → 3 ≤ l.length)
    (hbd : ∀ p ∈ l, Bnd p) (v : Value) (lo hi : Nat) (w : World) (hv : SlQ lo hi w v l) :
    Calls Tryz.prog 42 #[v, .bool closed] w (PpX l (bxs l (p0.1, p0.2, p0.1, p0.2)) w) := by
  obtain ⟨A, c, rfl, hk⟩ := hv
  obtain ⟨b, rfl, -, -, hb0, -⟩ := hk 0 p0 h0
  have hbw : b < w.heap.size := World.block_lt_of_cell? w _ hb0
  clear hb0
  have hk' : ∀ k p, l[k]? = some p → ∀ u, Below w.heap.size w u → u.cell? ⟨b, k * 2, none⟩ = some (fl (fb p.1)) ∧ u.cell? ⟨b, k * 2 + 1, none⟩ = some (fl (fb p.2)) := by
    intro k p hp u hu
    obtain ⟨b', e, -, -, g1, g2⟩ := hk k p hp
    cases e
    rw [Nat.zero_add] at g1 g2
    exact ⟨(hu.cell (World.block_lt_of_cell? w _ g1)).trans g1, (hu.cell (World.block_lt_of_cell? w _ g2)).trans g2⟩
  clear hk
  have hne0 : b ≠ w.heap.size := by omega
  have hne1 : b ≠ w.heap.size + 1 := by omega
  have hne2 : b ≠ w.heap.size + 1 + 1 := by omega
  have hne3 : b ≠ w.heap.size + 1 + 1 + 1 := by omega
  have hl3d : decide ((l.length : Int) < 3) = (decide ((l.length : Int) < 3)) := rfl
  have hc3 : closed = true → ¬ (l.length : Int) < 3 := fun h => by have := hl3 h; omega
  have hc2 : ¬ (l.length : Int) < 2 := by omega
  clear hl3 hl3d
  go_enter Tryz.func42, Tryz.ntmps42
  have st0 := ((((Blk.nil w).push rfl #[fl 0, fl 0, fl 0, fl 0] 52).push (b := w.heap.size + 1) (by simp) #[fl 0, fl 0] 50).push (b := w.heap.size + 1 + 1) (by simp) #[fl 0, fl 0] 50).push (b := w.heap.size + 1 + 1 + 1) (by simp) #[fl 0, fl 0] 50
  have st1 := ((((⟨fun i x h => by simp at h, st0.hb⟩ : Blk w _ []).add (st0.known 0 _ rfl)).add (st0.known 1 _ rfl)).add (st0.known 2 _ rfl)).add (st0.known 3 _ rfl)
  clear st0
  go_upto_region 1 with (fail)
  go_cut [25] from 15 to 24 (fun q wy => q = .bool false ∧ wy = w.alloc (.cells #[fl 0, fl 0, fl 0, fl 0] 52))
  case first =>
    cases closed with
    | false => go_wp2; go_meet; exact ⟨rfl, rfl⟩
    | true => have hc3' := hc3 rfl; clear hc3; go_wp2; go_meet; exact ⟨rfl, rfl⟩
  case rest =>
    obtain ⟨rfl, rfl⟩ := hcut
    clear hc2 hc3
    go_wp2
    go_loopg [7, 8, 12, 13] l.length (fun g cv d s i wr => ∃ k : Nat, g + k = l.length ∧ i = .int .i64 k ∧ cv = .bool (cvs l k).1 ∧ d = .int .i64 (cvs l k).2 ∧ (∃ x, s = fl x ∧ Rep x (cws l k)) ∧ ∃ r : Int × Int × Int × Int, (k ≠ 0 → r = bxs (l.take k) (p0.1, p0.2, p0.1, p0.2)) ∧ ∃ a1 a2 b1 b2 c1 c2, Blk w wr [(w.heap.size, #[fl (fb r.1), fl (fb r.2.1), fl (fb r.2.2.1), fl (fb r.2.2.2)], 52), (w.heap.size + 1, #[a1, a2], 50), (w.heap.size + 1 + 1, #[b1, b2], 50), (w.heap.size + 1 + 1 + 1, #[c1, c2], 50)])
    case atStart => exact ⟨0, by omega, rfl, rfl, rfl, ⟨_, rfl, fb_rep 0 (by omega)⟩, (0, 0, 0, 0), fun h => absurd rfl h, _, _, _, _, _, _, st1⟩
    case round =>
      obtain ⟨k, hgk, rfl, rfl, rfl, ⟨S, rfl, hS⟩, ⟨r1, r2, r3, r4⟩, hr, a1, a2, b1, b2, c1, c2, hB⟩ := hrel
      simp only at hB
      have hkl : k ≤ l.length := by omega
      have hSb := cws_bnd hbd k
      obtain ⟨Cv, hCv⟩ : ∃ x, (cvs l k).1 = x := ⟨_, rfl⟩
      obtain ⟨D, hDe⟩ : ∃ x, (cvs l k).2 = x := ⟨_, rfl⟩
      rw [hCv, hDe]
      rcases Nat.lt_or_ge k l.length with hlt | hge
      · obtain ⟨p, hpe⟩ : ∃ p, at' l k = p := ⟨_, rfl⟩
        have hp : l[k]? = some p := by rw [← hpe]; exact at_get hlt
        have hpb : Bnd p := hbd p (List.mem_of_getElem? hp)
        have hlt' : (k : Int) < (l.length : Int) := by omega
        go_upto_if 33 with (fail)
        go_cut [] from 26 to 195 (fun wy => Blk w wy [(w.heap.size, #[fl (fb (bxs (l.take (k + 1)) (p0.1, p0.2, p0.1, p0.2)).1), fl (fb (bxs (l.take (k + 1)) (p0.1, p0.2, p0.1, p0.2)).2.1), fl (fb (bxs (l.take (k + 1)) (p0.1, p0.2, p0.1, p0.2)).2.2.1), fl (fb (bxs (l.take (k + 1)) (p0.1, p0.2, p0.1, p0.2)).2.2.2)], 52), (w.heap.size + 1, #[a1, a2], 50), (w.heap.size + 1 + 1, #[b1, b2], 50), (w.heap.size + 1 + 1 + 1, #[c1, c2], 50)])
        case first =>
          by_cases hk0 : k = 0
          case pos =>
            as_aux_lemma =>
              have hkz : ((k : Int) == 0) = true := by simp [hk0]
              have hbwr : b < wr.heap.size := by have := hB.hb.size; omega
              obtain ⟨G1, G2⟩ := hk' k p hp wr hB.hb
              have hfst : bxs (l.take (k + 1)) (p0.1, p0.2, p0.1, p0.2) = (p.1, p.2, p.1, p.2) := by
                subst hk0
                rw [bxs_snoc l _ 0 p hp]
                rw [h0] at hp
                cases hp
                simp [bxs]
              clear hr hSb hCv hDe hS hpe hpb hk0
              have z0 := hB.cell 0 rfl 0
              have z1 := hB.cell 0 rfl 1
              have z2 := hB.cell 0 rfl 2
              have z3 := hB.cell 0 rfl 3
              have f0 := fun o => hB.frozen 0 rfl o
              simp only [List.getElem?_toArray, List.getElem?_cons_zero, List.getElem?_cons_succ] at z0 z1 z2 z3
              have hap : ∀ q : Array Value, apart w.heap.size 0 0 [(w.heap.size, q, 52), (w.heap.size + 1, #[a1, a2], 50), (w.heap.size + 1 + 1, #[b1, b2], 50), (w.heap.size + 1 + 1 + 1, #[c1, c2], 50)] := fun q => ⟨.inl rfl, .inr (by show _ ≠ _; omega), .inr (by show _ ≠ _; omega), .inr (by show _ ≠ _; omega), trivial⟩
              go_wp2
              go_region
              go_wp2
              go_meet
              rw [hfst]
              exact ((((hB.put 0 rfl (hap _) (Nat.le_refl _)).put 0 rfl (hap _) (Nat.le_refl _)).put 0 rfl (hap _) (Nat.le_refl _)).put 0 rfl (hap _) (Nat.le_refl _)).drew
          case neg =>
            as_aux_lemma =>
              have hkz : ((k : Int) == 0) = false := by simp [hk0]
              have hrk := hr hk0
              obtain ⟨G1, G2⟩ := hk' k p hp wr hB.hb
              have hle := bxs_le (l.take k) (p0.1, p0.2, p0.1, p0.2) (Int.le_refl _) (Int.le_refl _)
              have hrb := bxs_bnd (l.take k) (p0.1, p0.2, p0.1, p0.2) (fun q hq => hbd q (List.mem_of_mem_take hq)) (hbd _ (List.mem_of_getElem? h0)) (hbd _ (List.mem_of_getElem? h0))
              have hnx := bxs_snoc l (p0.1, p0.2, p0.1, p0.2) k p hp
              rw [← hrk] at hle hrb hnx
              simp only [Bnd] at hle hrb hnx hpb
              have ox1 := oR (fb_rep p.1 (by omega)) (fb_rep r1 (by omega))
              have ox3 := oR (fb_rep p.1 (by omega)) (fb_rep r3 (by omega))
              have oy2 := oR (fb_rep p.2 (by omega)) (fb_rep r2 (by omega))
              have oy4 := oR (fb_rep p.2 (by omega)) (fb_rep r4 (by omega))
              have z0 := hB.cell 0 rfl 0
              have z1 := hB.cell 0 rfl 1
              have z2 := hB.cell 0 rfl 2
              have z3 := hB.cell 0 rfl 3
              have f0 := fun o => hB.frozen 0 rfl o
              simp only [List.getElem?_toArray, List.getElem?_cons_zero, List.getElem?_cons_succ] at z0 z1 z2 z3
              have hap : ∀ q : Array Value, apart w.heap.size 0 0 [(w.heap.size, q, 52), (w.heap.size + 1, #[a1, a2], 50), (w.heap.size + 1 + 1, #[b1, b2], 50), (w.heap.size + 1 + 1 + 1, #[c1, c2], 50)] := fun q => ⟨.inl rfl, .inr (by show _ ≠ _; omega), .inr (by show _ ≠ _; omega), .inr (by show _ ≠ _; omega), trivial⟩
              clear hr hSb hCv hDe hS hpe hrk
              obtain ⟨x13, y24⟩ := hle
              clear hrb hpb
              go_wp2
              go_quiet (fail)
              go_upto_if 51 with (fail)
              go_cut [] from 26 to 195 (fun wy => Blk w wy [(w.heap.size, #[fl (fb (min r1 p.1)), fl (fb (r2)), fl (fb (max r3 p.1)), fl (fb (r4))], 52), (w.heap.size + 1, #[a1, a2], 50), (w.heap.size + 1 + 1, #[b1, b2], 50), (w.heap.size + 1 + 1 + 1, #[c1, c2], 50)])
              case first =>
                clear oy2 oy4 y24 z1 z3 G2 hnx
                by_cases g1 : p.1 < r1
                case pos =>
                  as_aux_lemma =>
                    have d1 := decide_eq_true g1
                    go_wp2
                    go_meet
                    rw [show min r1 p.1 = p.1 from by omega, show max r3 p.1 = r3 from by omega]
                    exact (hB.drewK _).put 0 rfl (hap _) (Nat.le_refl _)
                case neg =>
                  have d1 := decide_eq_false g1
                  by_cases g2 : r3 < p.1
                  case pos =>
                    as_aux_lemma =>
                      have d2 := decide_eq_true g2
                      go_wp2
                      go_quiet (fail)
                      go_wp2
                      go_meet
                      rw [show min r1 p.1 = r1 from by omega, show max r3 p.1 = p.1 from by omega]
                      exact (hB.drewK _).put 0 rfl (hap _) (Nat.le_refl _)
                  case neg =>
                    as_aux_lemma =>
                      have d2 := decide_eq_false g2
                      go_wp2
                      go_quiet (fail)
                      go_wp2
                      go_meet
                      rw [show min r1 p.1 = r1 from by omega, show max r3 p.1 = r3 from by omega]
                      first | exact (hB.drewK _) | exact ((hB.drewK _).drewK _)
              case rest =>
                as_aux_lemma =>
                  clear ox1 ox3 z0 z1 z2 z3 f0 G1 G2 x13 hap hB
                  have hB := hcut
                  clear hcut
                  obtain ⟨G1, G2⟩ := hk' k p hp wc hB.hb
                  have z1 := hB.cell 0 rfl 1
                  have z3 := hB.cell 0 rfl 3
                  have f0 := fun o => hB.frozen 0 rfl o
                  simp only [List.getElem?_toArray, List.getElem?_cons_zero, List.getElem?_cons_succ] at z1 z3
                  have hap : ∀ q : Array Value, apart w.heap.size 0 0 [(w.heap.size, q, 52), (w.heap.size + 1, #[a1, a2], 50), (w.heap.size + 1 + 1, #[b1, b2], 50), (w.heap.size + 1 + 1 + 1, #[c1, c2], 50)] := fun q => ⟨.inl rfl, .inr (by show _ ≠ _; omega), .inr (by show _ ≠ _; omega), .inr (by show _ ≠ _; omega), trivial⟩
                  go_wp2
                  go_quiet (fail)
                  go_upto_if 83 with (fail)
                  by_cases g1 : p.2 < r2
                  case pos =>
                    as_aux_lemma =>
                      have d1 := decide_eq_true g1
                      go_wp2
                      go_meet
                      rw [hnx, show min r2 p.2 = p.2 from by omega, show max r4 p.2 = r4 from by omega]
                      exact (hB.drewK _).put 0 rfl (hap _) (Nat.le_refl _)
                  case neg =>
                    have d1 := decide_eq_false g1
                    by_cases g2 : r4 < p.2
                    case pos =>
                      as_aux_lemma =>
                        have d2 := decide_eq_true g2
                        go_wp2
                        go_quiet (fail)
                        go_wp2
                        go_meet
                        rw [hnx, show min r2 p.2 = r2 from by omega, show max r4 p.2 = p.2 from by omega]
                        exact (hB.drewK _).put 0 rfl (hap _) (Nat.le_refl _)
                    case neg =>
                      as_aux_lemma =>
                        have d2 := decide_eq_false g2
                        go_wp2
                        go_quiet (fail)
                        go_wp2
                        go_meet
                        rw [hnx, show min r2 p.2 = r2 from by omega, show max r4 p.2 = r4 from by omega]
                        first | exact (hB.drewK _) | exact ((hB.drewK _).drewK _)
        case rest =>
          as_aux_lemma =>
            have hB := hcut
            clear hcut hr
            generalize hRc : (#[fl (fb (bxs (l.take (k + 1)) (p0.1, p0.2, p0.1, p0.2)).1), fl (fb (bxs (l.take (k + 1)) (p0.1, p0.2, p0.1, p0.2)).2.1), fl (fb (bxs (l.take (k + 1)) (p0.1, p0.2, p0.1, p0.2)).2.2.1), fl (fb (bxs (l.take (k + 1)) (p0.1, p0.2, p0.1, p0.2)).2.2.2)] : Array Value) = Rc at hB
            obtain ⟨q, hqe⟩ : ∃ q, nx1 l k = q := ⟨_, rfl⟩
            obtain ⟨t, hte⟩ : ∃ t, nx2 l k = t := ⟨_, rfl⟩
            obtain ⟨G1, G2⟩ := hk' k p hp wc hB.hb
            have x0 := hB.cell 1 rfl 0
            have x1 := hB.cell 1 rfl 1
            have x2 := hB.cell 2 rfl 0
            have x3 := hB.cell 2 rfl 1
            have x4 := hB.cell 3 rfl 0
            have x5 := hB.cell 3 rfl 1
            have f1 := fun o => hB.frozen 1 rfl o
            have f2 := fun o => hB.frozen 2 rfl o
            have f3 := fun o => hB.frozen 3 rfl o
            simp only [List.getElem?_toArray, List.getElem?_cons_zero, List.getElem?_cons_succ] at x0 x1 x2 x3 x4 x5
            have ha : ∀ (A B C : Array Value), apart (w.heap.size + 1) 1 0 [(w.heap.size, Rc, 52), (w.heap.size + 1, A, 50), (w.heap.size + 1 + 1, B, 50), (w.heap.size + 1 + 1 + 1, C, 50)] := fun A B C => ⟨.inr (by show _ ≠ _; omega), .inl rfl, .inr (by show _ ≠ _; omega), .inr (by show _ ≠ _; omega), trivial⟩
            have hb : ∀ (A B C : Array Value), apart (w.heap.size + 1 + 1) 2 0 [(w.heap.size, Rc, 52), (w.heap.size + 1, A, 50), (w.heap.size + 1 + 1, B, 50), (w.heap.size + 1 + 1 + 1, C, 50)] := fun A B C => ⟨.inr (by show _ ≠ _; omega), .inr (by show _ ≠ _; omega), .inl rfl, .inr (by show _ ≠ _; omega), trivial⟩
            have hc : ∀ (A B C : Array Value), apart (w.heap.size + 1 + 1 + 1) 3 0 [(w.heap.size, Rc, 52), (w.heap.size + 1, A, 50), (w.heap.size + 1 + 1, B, 50), (w.heap.size + 1 + 1 + 1, C, 50)] := fun A B C => ⟨.inr (by show _ ≠ _; omega), .inr (by show _ ≠ _; omega), .inr (by show _ ≠ _; omega), .inl rfl, trivial⟩
            go_upto_if 115 with (fail)
            go_cut [] from 26 to 195 (fun wy => Blk w wy [(w.heap.size, Rc, 52), (w.heap.size + 1, #[fl (fb p.1), fl (fb p.2)], 50), (w.heap.size + 1 + 1, #[fl (fb q.1), fl (fb q.2)], 50), (w.heap.size + 1 + 1 + 1, #[fl (fb t.1), fl (fb t.2)], 50)])
            case first =>
              clear hSb hCv hDe hS hpb hRc hpe x0 x1 G1 G2 f1
              by_cases e1 : k + 1 = l.length
              case pos =>
                as_aux_lemma =>
                  have e1b : ((k : Int) == (l.length : Int) - 1) = true := beq_iff_eq.2 (by omega)
                  have hq0 : q = at' l 0 := by rw [← hqe, nx1, if_pos e1]
                  have ht0 : t = at' l 1 := by rw [← hte, nx2, if_pos e1]
                  obtain ⟨G3, G4⟩ := hk' 0 q (hq0 ▸ at_get (by omega)) wc hB.hb
                  obtain ⟨G5, G6⟩ := hk' 1 t (ht0 ▸ at_get (by omega)) wc hB.hb
                  simp only [Nat.zero_mul, Nat.zero_add, Nat.one_mul, Nat.reduceAdd] at G3 G4 G5 G6
                  have l1 : (1 : Int) < (l.length : Int) := by omega
                  have l0 : (0 : Int) < (l.length : Int) := by omega
                  clear hqe hte hq0 ht0 e1
                  go_wp2
                  go_meet
                  exact ((((((hB.put 1 rfl (ha _ _ _) (by omega)).put 1 rfl (ha _ _ _) (by omega)).put 2 rfl (hb _ _ _) (by omega)).put 2 rfl (hb _ _ _) (by omega)).put 3 rfl (hc _ _ _) (by omega)).put 3 rfl (hc _ _ _) (by omega))
              case neg =>
                have e1b : ((k : Int) == (l.length : Int) - 1) = false := beq_eq_false_iff_ne.2 (by omega)
                by_cases e2 : k + 2 = l.length
                case pos =>
                  as_aux_lemma =>
                    have e2b : ((k : Int) == (l.length : Int) - 2) = true := beq_iff_eq.2 (by omega)
                    have hq0 : q = at' l (k + 1) := by rw [← hqe, nx1, if_neg e1]
                    have ht0 : t = at' l 0 := by rw [← hte, nx2, if_neg e1, if_pos e2]
                    obtain ⟨G3, G4⟩ := hk' (k + 1) q (hq0 ▸ at_get (by omega)) wc hB.hb
                    obtain ⟨G5, G6⟩ := hk' 0 t (ht0 ▸ at_get (by omega)) wc hB.hb
                    simp only [Nat.zero_mul, Nat.zero_add, Nat.one_mul, Nat.reduceAdd] at G5 G6
                    have l1 : (k : Int) + 1 < (l.length : Int) := by omega
                    have l0 : (0 : Int) < (l.length : Int) := by omega
                    clear hqe hte hq0 ht0 e1 e2
                    go_wp2
                    go_meet
                    exact ((((((hB.put 1 rfl (ha _ _ _) (by omega)).put 1 rfl (ha _ _ _) (by omega)).put 2 rfl (hb _ _ _) (by omega)).put 2 rfl (hb _ _ _) (by omega)).put 3 rfl (hc _ _ _) (by omega)).put 3 rfl (hc _ _ _) (by omega))
                case neg =>
                  as_aux_lemma =>
                    have e2b : ((k : Int) == (l.length : Int) - 2) = false := beq_eq_false_iff_ne.2 (by omega)
                    have hq0 : q = at' l (k + 1) := by rw [← hqe, nx1, if_neg e1]
                    have ht0 : t = at' l (k + 2) := by rw [← hte, nx2, if_neg e1, if_neg e2]
                    obtain ⟨G3, G4⟩ := hk' (k + 1) q (hq0 ▸ at_get (by omega)) wc hB.hb
                    obtain ⟨G5, G6⟩ := hk' (k + 2) t (ht0 ▸ at_get (by omega)) wc hB.hb
                    have l1 : (k : Int) + 1 < (l.length : Int) := by omega
                    have l2 : (k : Int) + 2 < (l.length : Int) := by omega
                    clear hqe hte hq0 ht0 e1 e2
                    go_wp2
                    go_meet
                    exact ((((((hB.put 1 rfl (ha _ _ _) (by omega)).put 1 rfl (ha _ _ _) (by omega)).put 2 rfl (hb _ _ _) (by omega)).put 2 rfl (hb _ _ _) (by omega)).put 3 rfl (hc _ _ _) (by omega)).put 3 rfl (hc _ _ _) (by omega))
            case rest =>
              clear x0 x1 x2 x3 x4 x5 f1 f2 f3 G1 G2 ha hb hc hB
              have hB := hcut
              clear hcut
              have x0 := hB.cell 1 rfl 0
              have x1 := hB.cell 1 rfl 1
              have x2 := hB.cell 2 rfl 0
              have x3 := hB.cell 2 rfl 1
              have x4 := hB.cell 3 rfl 0
              have x5 := hB.cell 3 rfl 1
              simp only [List.getElem?_toArray, List.getElem?_cons_zero, List.getElem?_cons_succ] at x0 x1 x2 x3 x4 x5
              have bq := nx1_bnd hbd k
              have bt := nx2_bnd hbd k
              rw [hqe] at bq
              rw [hte] at bt
              have tb := twice_bnd hpb bq
              obtain ⟨bp1, bp2⟩ := hpb
              obtain ⟨bq1, bq2⟩ := bq
              obtain ⟨bt1, bt2⟩ := bt
              have rp1 := fb_rep p.1 (by omega)
              have rp2 := fb_rep p.2 (by omega)
              have rq1 := fb_rep q.1 (by omega)
              have rq2 := fb_rep q.2 (by omega)
              have rt1 := fb_rep t.1 (by omega)
              have rt2 := fb_rep t.2 (by omega)
              have m1b : ((q.1 - p.1) * (q.2 + p.2)).natAbs ≤ 2000000 * 2000000 := mul_bnd (by omega) (by omega)
              have m2b : ((q.1 - p.1) * (t.2 - q.2)).natAbs ≤ 2000000 * 2000000 := mul_bnd (by omega) (by omega)
              have m3b : ((q.2 - p.2) * (t.1 - q.1)).natAbs ≤ 2000000 * 2000000 := mul_bnd (by omega) (by omega)
              obtain ⟨d1, E1, R1⟩ := sub_rep rq1 rp1 (by omega)
              obtain ⟨d2, E2, R2⟩ := add_rep rq2 rp2 (by omega)
              obtain ⟨d3, E3, R3⟩ := mul_rep R1 R2 (by omega)
              obtain ⟨S', E4, hS'⟩ := add_rep hS R3 (by omega)
              obtain ⟨d4, E5, R5⟩ := sub_rep rt2 rq2 (by omega)
              obtain ⟨d5, E6, R6⟩ := mul_rep R1 R5 (by omega)
              obtain ⟨d6, E7, R7⟩ := sub_rep rq2 rp2 (by omega)
              obtain ⟨d7, E8, R8⟩ := sub_rep rt1 rq1 (by omega)
              obtain ⟨d8, E9, R9⟩ := mul_rep R7 R8 (by omega)
              obtain ⟨z, E10, R10⟩ := sub_rep R6 R9 (by omega)
              have F1 := runSub (P := Tryz.prog) E1
              have F2 := runAdd (P := Tryz.prog) E2
              have F3 := runMul (P := Tryz.prog) E3
              have F4 := runAdd (P := Tryz.prog) E4
              have F5 := runSub (P := Tryz.prog) E5
              have F6 := runMul (P := Tryz.prog) E6
              have F7 := runSub (P := Tryz.prog) E7
              have F8 := runSub (P := Tryz.prog) E8
              have F9 := runMul (P := Tryz.prog) E9
              have F10 := runSub (P := Tryz.prog) E10
              have hS2 : Rep S' (cws l (k + 1)) := by
                have e : cws l (k + 1) = cws l k + (q.1 - p.1) * (q.2 + p.2) := by rw [← hqe, ← hpe]; rfl
                rw [e]; exact hS'
              obtain ⟨Z, hZ⟩ : ∃ Z, (q.1 - p.1) * (t.2 - q.2) - (q.2 - p.2) * (t.1 - q.1) = Z := ⟨_, rfl⟩
              have hnext : cvs l (k + 1) = cstep (Cv, D) Z := by
                rw [← hCv, ← hDe, ← hZ, ← hqe, ← hte, ← hpe]; rfl
              rw [hZ] at R10
              have oz := oR R10 (fb_rep 0 (by omega))
              have z0 : fb 0 = 0 := by kernel_rfl
              rw [z0] at oz
              clear E1 E2 E3 E4 E5 E6 E7 E8 E9 E10 R1 R2 R3 R5 R6 R7 R8 R9 R10 hS' m1b m2b m3b rp1 rp2 rq1 rq2 rt1 rt2 bp1 bp2 bq1 bq2 bt1 bt2 tb hS hSb hCv hDe hpe hqe hte hZ z0
              go_upto_if 158 with (fail)
              cases Cv with
              | true =>
                as_aux_lemma =>
                  have hn : cvs l (k + 1) = (true, D) := by rw [hnext]; simp [cstep]
                  clear hnext
                  go_wp2
                  go_roundg (gk - 1)
                  case measure => omega
                  case rel => exact ⟨k + 1, by omega, by go_num, by rw [hn], by rw [hn], ⟨_, rfl, hS2⟩, _, fun _ => rfl, _, _, _, _, _, _, by rw [hRc]; exact hB⟩
              | false =>
                have hzn : Z < 0 → ¬ 0 < Z := fun h => by omega
                by_cases k1 : D = 0
                case pos =>
                  subst k1
                  by_cases g1 : Z < 0
                  case pos =>
                    have g2 := hzn g1
                    clear hzn
                    have q1 := decide_eq_true g1
                    as_aux_lemma =>
                      have hn : cvs l (k + 1) = (false, -1) := by rw [hnext]; simp [cstep, g1]
                      clear hnext
                      go_wp2
                      go_roundg (gk - 1)
                      case measure => omega
                      case rel => exact ⟨k + 1, by omega, by go_num, by rw [hn], by rw [hn], ⟨_, rfl, hS2⟩, _, fun _ => rfl, _, _, _, _, _, _, by rw [hRc]; exact hB⟩
                  case neg =>
                    clear hzn
                    have q1 := decide_eq_false g1
                    by_cases g2 : 0 < Z
                    case pos =>
                      have q2 := decide_eq_true g2
                      as_aux_lemma =>
                        have hn : cvs l (k + 1) = (false, 1) := by rw [hnext]; simp [cstep, g1, g2]
                        clear hnext
                        go_wp2
                        go_roundg (gk - 1)
                        case measure => omega
                        case rel => exact ⟨k + 1, by omega, by go_num, by rw [hn], by rw [hn], ⟨_, rfl, hS2⟩, _, fun _ => rfl, _, _, _, _, _, _, by rw [hRc]; exact hB⟩
                    case neg =>
                      have q2 := decide_eq_false g2
                      as_aux_lemma =>
                        have hn : cvs l (k + 1) = (false, 0) := by rw [hnext]; simp [cstep, g1, g2]
                        clear hnext
                        go_wp2
                        go_roundg (gk - 1)
                        case measure => omega
                        case rel => exact ⟨k + 1, by omega, by go_num, by rw [hn], by rw [hn], ⟨_, rfl, hS2⟩, _, fun _ => rfl, _, _, _, _, _, _, by rw [hRc]; exact hB⟩
                case neg =>
                  have k1b : (D == 0) = false := beq_eq_false_iff_ne.2 k1
                  by_cases g1 : Z < 0
                  case pos =>
                    have g2 := hzn g1
                    clear hzn
                    have q1 := decide_eq_true g1
                    by_cases k2 : D = 1
                    case pos =>
                      subst k2
                      as_aux_lemma =>
                        have hn : cvs l (k + 1) = (true, 1) := by rw [hnext]; simp [cstep, g1]
                        clear hnext
                        go_wp2
                        go_roundg (gk - 1)
                        case measure => omega
                        case rel => exact ⟨k + 1, by omega, by go_num, by rw [hn], by rw [hn], ⟨_, rfl, hS2⟩, _, fun _ => rfl, _, _, _, _, _, _, by rw [hRc]; exact hB⟩
                    case neg =>
                      have k2b : (D == 1) = false := beq_eq_false_iff_ne.2 k2
                      as_aux_lemma =>
                        have hn : cvs l (k + 1) = (false, D) := by rw [hnext]; simp [cstep, g1, k1, k2]
                        clear hnext
                        go_wp2
                        go_roundg (gk - 1)
                        case measure => omega
                        case rel => exact ⟨k + 1, by omega, by go_num, by rw [hn], by rw [hn], ⟨_, rfl, hS2⟩, _, fun _ => rfl, _, _, _, _, _, _, by rw [hRc]; exact hB⟩
                  case neg =>
                    clear hzn
                    have q1 := decide_eq_false g1
                    by_cases g2 : 0 < Z
                    case pos =>
                      have q2 := decide_eq_true g2
                      by_cases k2 : D = -1
                      case pos =>
                        subst k2
                        as_aux_lemma =>
                          have hn : cvs l (k + 1) = (true, -1) := by rw [hnext]; simp [cstep, g1, g2]
                          clear hnext
                          go_wp2
                          go_roundg (gk - 1)
                          case measure => omega
                          case rel => exact ⟨k + 1, by omega, by go_num, by rw [hn], by rw [hn], ⟨_, rfl, hS2⟩, _, fun _ => rfl, _, _, _, _, _, _, by rw [hRc]; exact hB⟩
                      case neg =>
                        have k2b : (D == -1) = false := beq_eq_false_iff_ne.2 k2
                        as_aux_lemma =>
                          have hn : cvs l (k + 1) = (false, D) := by rw [hnext]; simp [cstep, g1, g2, k1, k2]
                          clear hnext
                          go_wp2
                          go_roundg (gk - 1)
                          case measure => omega
                          case rel => exact ⟨k + 1, by omega, by go_num, by rw [hn], by rw [hn], ⟨_, rfl, hS2⟩, _, fun _ => rfl, _, _, _, _, _, _, by rw [hRc]; exact hB⟩
                    case neg =>
                      have q2 := decide_eq_false g2
                      as_aux_lemma =>
                        have hn : cvs l (k + 1) = (false, D) := by rw [hnext]; simp [cstep, g1, g2, k1]
                        clear hnext
                        go_wp2
                        go_roundg (gk - 1)
                        case measure => omega
                        case rel => exact ⟨k + 1, by omega, by go_num, by rw [hn], by rw [hn], ⟨_, rfl, hS2⟩, _, fun _ => rfl, _, _, _, _, _, _, by rw [hRc]; exact hB⟩
      · have hkk : k = l.length := by omega
        subst hkk
        as_aux_lemma =>
          have hle : ¬ (l.length : Int) < (l.length : Int) := by omega
          have hk0 : l.length ≠ 0 := by omega
          have hrk := hr hk0
          rw [List.take_length] at hrk
          clear hr hk' hSb
          have z0 := hB.cell 0 rfl 0
          have z1 := hB.cell 0 rfl 1
          have z2 := hB.cell 0 rfl 2
          have z3 := hB.cell 0 rfl 3
          have f0 := fun o => hB.frozen 0 rfl o
          simp only [List.getElem?_toArray, List.getElem?_cons_zero, List.getElem?_cons_succ] at z0 z1 z2 z3
          have oz := oR hS (fb_rep 0 (by omega))
          have hz0 : fb 0 = 0 := by kernel_rfl
          rw [hz0] at oz
          clear hz0
          obtain ⟨W, hW⟩ : ∃ x, cws l l.length = x := ⟨_, rfl⟩
          rw [hW] at oz
          have hfin : ∀ w', Below w.heap.size w w' → PpX l (bxs l (p0.1, p0.2, p0.1, p0.2)) w (.returned (.tuple #[.bool (!Cv), .agg #[fl (fb r1), fl (fb r2), fl (fb r3), fl (fb r4)], .bool (decide (0 < W))])) w' := by
            intro w' hb
            unfold PpX; rw [hCv, hW, ← hrk]; exact ⟨rfl, hb⟩
          clear hrk hCv hDe hW hS hbd h0
          go_wp2
          go_region
          have hap : ∀ q : Array Value, apart w.heap.size 0 0 [(w.heap.size, q, 52), (w.heap.size + 1, #[a1, a2], 50), (w.heap.size + 1 + 1, #[b1, b2], 50), (w.heap.size + 1 + 1 + 1, #[c1, c2], 50)] := fun q => ⟨.inl rfl, .inr (by show _ ≠ _; omega), .inr (by show _ ≠ _; omega), .inr (by show _ ≠ _; omega), trivial⟩
          have hB2 := ((((hB.put 0 (o := 0) (v := fl (fb r1)) rfl (hap _) (Nat.le_refl _)).put 0 (o := 1) (v := fl (fb r2)) rfl (hap _) (Nat.le_refl _)).put 0 (o := 2) (v := fl (fb r3)) rfl (hap _) (Nat.le_refl _)).put 0 (o := 3) (v := fl (fb r4)) rfl (hap _) (Nat.le_refl _)).drew
          clear z0 z1 z2 z3 f0 hap
          go_wp2
          generalize ((((wr.setCell ⟨w.heap.size, 0, none⟩ (fl (fb r1))).setCell ⟨w.heap.size, 1, none⟩ (fl (fb r2))).setCell ⟨w.heap.size, 2, none⟩ (fl (fb r3))).setCell ⟨w.heap.size, 3, none⟩ (fl (fb r4))).drew = wF at *
          have z0 := hB2.cell 0 rfl 0
          have z1 := hB2.cell 0 rfl 1
          have z2 := hB2.cell 0 rfl 2
          have z3 := hB2.cell 0 rfl 3
          simp at z0 z1 z2 z3
          refine bodyPost_ret (results_pp _ _ _ _ _ _ _ _ _ ?_ ?_ ?_ z0 z1 z2 z3) rfl (hfin _ hB2.hb) <;> rfl
end Go.Proofs.YtlpibeloedfbdaaGreat
