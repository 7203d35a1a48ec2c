import Derived.Test.YtlpibeloedfbdaaGreatQB
import Derived.Test.YtlpibeloedfbdaaGreatRect
import Derived.Test.YtlpibeloedfbdaaGreatQT
import Derived.Test.YtlpibeloedfbdaaGreatQG
set_option linter.unusedSimpArgs false
set_option linter.unusedVariables false
/-! Search with a closure that stops at the first segment it finds. -/
namespace PF
/-- one of the first n -/
def anyN (f : Nat → Bool) : Nat → Bool
  | 0 => false
  | n + 1 => anyN f n || f n
theorem anyN_hit {f : Nat → Bool} {k : Nat} : ∀ {n : Nat}, k < n → f k = true → anyN f n = true := by
  intro n
  induction n with
  | zero => intro h; omega
  | succ n ih =>
    intro h hk
    rw [anyN]
    by_cases e : k = n
    · subst e; simp [hk]
    · rw [ih (by omega) hk]; rfl
theorem anyN_none {f : Nat → Bool} : ∀ {n : Nat}, (∀ k, k < n → f k = false) → anyN f n = false := by
  intro n
  induction n with
  | zero => intro _; rfl
  | succ n ih => intro h; rw [anyN, ih (fun k hk => h k (by omega)), h n (by omega)]; rfl
theorem anyN_iff {f : Nat → Bool} : ∀ {n : Nat}, anyN f n = true ↔ ∃ k, k < n ∧ f k = true := by
  intro n
  constructor
  · intro h
    rcases Classical.em (∃ k, k < n ∧ f k = true) with g | g
    · exact g
    · rw [anyN_none (fun k hk => by
        cases hh : f k with
        | false => rfl
        | true => exact absurd ⟨k, hk, hh⟩ g)] at h
      cases h
  · rintro ⟨k, hk, h⟩
    exact anyN_hit hk h
theorem anyN_congr {f g : Nat → Bool} {n : Nat} (h : ∀ k, k < n → f k = g k) : anyN f n = anyN g n := by
  rw [Bool.eq_iff_iff, anyN_iff, anyN_iff]
  constructor
  · rintro ⟨k, hk, e⟩
    exact ⟨k, hk, by rw [← h k hk]; exact e⟩
  · rintro ⟨k, hk, e⟩
    exact ⟨k, hk, by rw [h k hk]; exact e⟩
end PF
namespace Go.Proofs.YtlpibeloedfbdaaGreat
open Go.RowKit PF JR
theorem keep_extA {X : List Nat} {u w w' : World} (h : Keep X u w) (k : Keep X w w') : Keep X u w' :=
  ⟨k.os.trans h.os, k.tape.trans h.tape, k.output.trans h.output, Nat.le_trans h.size k.size, fun j hj hx => (k.block j (Nat.lt_of_lt_of_le hj h.size) hx).trans (h.block j hj hx)⟩
theorem nseg_lenA (closed : Bool) (l : List (Int × Int)) : nSeg closed l ≤ l.length := by
  unfold nSeg
  split
  · split
    · omega
    · split <;> omega
  · omega
theorem rbx_allA (l : List (Int × Int)) : ∀ n k, k < n → (rbx l n).1 ≤ (sgx l k).1 ∧ (rbx l n).2.1 ≤ (sgx l k).2.1 ∧ (sgx l k).2.2.1 ≤ (rbx l n).2.2.1 ∧ (sgx l k).2.2.2 ≤ (rbx l n).2.2.2 := by
  intro n
  induction n with
  | zero => intro k h; omega
  | succ n ih =>
    intro k h
    rw [rbx]
    unfold ifz
    by_cases e : k = n
    · subst e
      split <;> simp only <;> omega
    · have := ih k (by omega)
      rw [if_neg (by omega), if_neg (by omega), if_neg (by omega), if_neg (by omega)]
      simp only
      omega
set_option maxHeartbeats 1000000 in
theorem any_find (F : FuncId) (caps : Array Value) (hent : ∀ args u, (callFunc F args).run Tryz.prog u = .ok (.enter F args) u) (K : Nat) (hK : K ≤ 2) (closed : Bool) (l : List (Int × Int)) (hl : l.length ≤ 12) (h2l : 2 ≤ l.length) (hbd : ∀ p ∈ l, Bnd p)
    (T : TypeId) (lo hi b : Nat) (u : World) (hS : SkP K closed l T lo hi b u) (hhi : hi ≤ u.heap.size) (fbk : Nat) (hfl : hi ≤ fbk)
    {q0 q1 q2 q3 : Nat} {R0 R1 R2 R3 : Int} (e0 : Rep q0 R0) (e1 : Rep q1 R1) (e2 : Rep q2 R2) (e3 : Rep q3 R3) (ans : Nat → Bool)
    (hf : u.heap[fbk]? = some (.cells #[.bool false] 4 (0, 0)))
    (hcall : ∀ k w, k < nSeg closed l → Keep [fbk] u w → w.heap[fbk]? = some (.cells #[.bool false] 4 (0, 0)) → Calls Tryz.prog F (#[sgv l k, .int .i64 k] ++ caps) w fun e w' => e = .returned (.bool (!ans k)) ∧ w'.heap[fbk]? = some (.cells #[.bool (ans k)] 4 (0, 0)) ∧ Keep [fbk] w w')
    (hmiss : ∀ k, k < nSeg closed l → ¬ ((sgx l k).1 ≤ R2 ∧ R0 ≤ (sgx l k).2.2.1 ∧ (sgx l k).2.1 ≤ R3 ∧ R1 ≤ (sgx l k).2.2.2) → ans k = false) :
    Calls Tryz.prog 104 #[.pointer (some ⟨b, 0, none⟩), .agg #[fl q0, fl q1, fl q2, fl q3], .func (.func F) #[] caps] u
      fun e w' => e = .returned (.tuple #[]) ∧ Keep [fbk] u w' ∧ w'.heap[fbk]? = some (.cells #[.bool (anyN ans (nSeg closed l))] 4 (0, 0)) := by
  have hN := nseg_lenA closed l
  obtain ⟨ix, v', g0, g1, g2, g3, g4⟩ := hS
  have H : SrchOk F caps K closed l T lo hi b ix v' (.agg #[fl q0, fl q1, fl q2, fl q3]) (fun k => decide ((sgx l k).1 ≤ R2 ∧ R0 ≤ (sgx l k).2.2.1 ∧ (sgx l k).2.1 ≤ R3 ∧ R1 ≤ (sgx l k).2.2.2))
      (fun k w => Keep [fbk] u w ∧ w.heap[fbk]? = some (.cells #[.bool false] 4 (0, 0)) ∧ anyN ans k = false)
      (fun w => Keep [fbk] u w ∧ w.heap[fbk]? = some (.cells #[.bool true] 4 (0, 0)) ∧ anyN ans (nSeg closed l) = true) := by
    refine ⟨hl, h2l, hent, hbd, ⟨g1, g2⟩, ?_, ?_, ?_, ?_, ?_, ?_⟩
    · rintro k w ⟨hK, -⟩
      have hk : ∀ j, lo ≤ j → j < hi → w.heap[j]? = u.heap[j]? := fun j h1 h2 => hK.block j (by omega) (by simp; omega)
      exact ⟨g0.keep fun j h1 h2 _ => hk j h1 h2, (hk b g1 g2).trans g3, g4.keep hk⟩
    · rintro k w w' ⟨h1, h2, h3⟩ he
      exact ⟨h1.ext he, (he.block fbk (lt_of_some h2)).trans h2, h3⟩
    · rintro w w' ⟨h1, h2, h3⟩ he
      exact ⟨h1.ext he, (he.block fbk (lt_of_some h2)).trans h2, h3⟩
    · intro k u _
      obtain ⟨k1, k2, k3, k4⟩ := sgx_bd hbd k
      exact rir_c (fb_rep _ (by omega)) (fb_rep _ (by omega)) (fb_rep _ (by omega)) (fb_rep _ (by omega)) e0 e1 e2 e3 u
    · rintro k w hkN hit ⟨hKp, h2, h3⟩
      refine (hcall k w hkN hKp h2).mono ?_
      rintro e w' ⟨rfl, q1, q3⟩
      have hK3 := keep_extA hKp q3
      refine ⟨_, rfl, fun hc => ?_, fun hc => ?_, q3.size, fun j cs T hT hj => ?_⟩
      · have hr : ans k = false := by cases hh : ans k <;> simp_all
        rw [hr] at q1
        exact ⟨hK3, q1, by rw [anyN, h3, hr]; rfl⟩
      · have hr : ans k = true := by cases hh : ans k <;> simp_all
        rw [hr] at q1
        exact ⟨hK3, q1, anyN_hit hkN hr⟩
      · refine (q3.block j (lt_of_some hj) (fun h => ?_)).trans hj
        obtain rfl : j = fbk := by simpa using h
        rw [h2] at hj
        cases hj
        rcases hT with h | h <;> cases h
    · rintro k w hkN hit ⟨h1, h2, h3⟩
      have hit' := of_decide_eq_false hit
      exact ⟨h1, h2, by rw [anyN, h3, hmiss k hkN hit']; rfl⟩
  refine (search_c F caps K hK closed l T lo hi b _ _ _ _ ix v' _ _ _ (decide (R0 ≤ (rbx l (nSeg closed l)).2.2.1 ∧ (rbx l (nSeg closed l)).1 ≤ R2 ∧ R1 ≤ (rbx l (nSeg closed l)).2.2.2 ∧ (rbx l (nSeg closed l)).2.1 ≤ R3)) H ?_ ?_ u ⟨Keep.refl _ _, hf, rfl⟩).mono ?_
  · intro _ _ w
    obtain ⟨k1, k2, k3, k4⟩ := rbx_bd hbd (nSeg closed l)
    exact rir_c e0 e1 e2 e3 (fb_rep _ (by omega)) (fb_rep _ (by omega)) (fb_rep _ (by omega)) (fb_rep _ (by omega)) w
  · intro hf k hk
    obtain ⟨a, b, c, d⟩ := rbx_allA l (nSeg closed l) k hk
    have := of_decide_eq_false hf
    exact decide_eq_false (by omega)
  · rintro e w' ⟨rfl, h⟩
    refine ⟨rfl, ?_⟩
    rcases h with ⟨hK, h1, h2⟩ | ⟨hK, h1, h2⟩
    · exact ⟨hK, by rw [h1, h2]⟩
    · exact ⟨hK, by rw [h1, h2]⟩
end Go.Proofs.YtlpibeloedfbdaaGreat
set_option linter.unusedSimpArgs false
set_option linter.unusedVariables false
/-! Line.ContainsPoint. -/
namespace Go.Proofs.YtlpibeloedfbdaaGreat
open Go.RowKit PF JR
theorem fldOn (x y : Value) (w : World) : (Instr.field 163 (.agg #[x, y]) 1).run Tryz.prog w = .ok y w := by kernel_rfl
theorem entL (args : Array Value) (u : World) : (callFunc 105 args).run Tryz.prog u = .ok (.enter 105 args) u := by kernel_rfl
/-- the closure -/
theorem lcl_c (a b c d x y : Nat) (ri ro : Bool) (k : Int) (pb fbk : Nat) (u : World)
    (hray : ∀ u, Calls Tryz.prog 106 #[.agg #[fl a, fl b, fl c, fl d], .agg #[fl x, fl y]] u fun e w' => e = .returned (.agg #[.bool ri, .bool ro]) ∧ Below u.heap.size u w')
    (hp : u.heap[pb]? = some (.cells #[fl x, fl y] 50 (0, 0))) (hf : u.heap[fbk]? = some (.cells #[.bool false] 4 (0, 0))) :
    Calls Tryz.prog 105 #[.agg #[fl a, fl b, fl c, fl d], .int .i64 k, .pointer (some ⟨pb, 0, none⟩), .pointer (some ⟨fbk, 0, none⟩)] u
      fun e u' => e = .returned (.bool (!ro)) ∧ u'.heap[fbk]? = some (.cells #[.bool ro] 4 (0, 0)) ∧ Keep [fbk] u u' := by
  have st0 := (Blk.nil u).push rfl #[fl a, fl b, fl c, fl d] 73
  have hB1 := st0.hb
  have q0 := st0.cell 0 rfl 0
  have q1 := st0.cell 0 rfl 1
  have q2 := st0.cell 0 rfl 2
  have q3 := st0.cell 0 rfl 3
  have p0 := cellAt ((hB1.block pb (lt_of_some hp)).trans hp) 0
  have p1 := cellAt ((hB1.block pb (lt_of_some hp)).trans hp) 1
  simp only [List.getElem?_toArray, List.getElem?_cons_zero, List.getElem?_cons_succ] at p0 p1 q0 q1 q2 q3
  have hfo := fldOn
  go_enter Tryz.func105, Tryz.ntmps105
  go_wp2_with (go_at_call 106; refine JR.StopM.out ?_)
  refine ⟨?_⟩
  refine (hray _).mono ?_
  rintro e w1 ⟨rfl, hb⟩
  have hB2 := hB1.trans (hb.mono (by simp))
  have hf2 := (hB2.block fbk (lt_of_some hf)).trans hf
  have ff := frozenAt hf2 0
  have c0 := cellAt hf2 0
  simp only [List.getElem?_toArray, List.getElem?_cons_zero] at c0
  have hK2 : Keep [fbk] u w1 := ⟨hB2.os, hB2.tape, hB2.output, hB2.size, fun j hj _ => hB2.block j hj⟩
  clear hb st0 q0 q1 q2 q3 p0 p1 hB1 hray
  cases ro with
  | true =>
    go_wp2
    go_ret
    rw [setCell_row hf2]
    exact ⟨rfl, by rw [setRow_same hf2]; rfl, hK2.setRow (.inr (by simp))⟩
  | false =>
    go_wp2
    go_ret
    exact ⟨rfl, hf2, hK2⟩
set_option maxRecDepth 100000 in
set_option maxHeartbeats 2000000 in
theorem linCP_c (b : Nat) (px py : Nat) (r : Bool) (w : World)
    (hfind : ∀ u pb fbk, Below w.heap.size w u → w.heap.size ≤ pb → w.heap.size ≤ fbk → pb ≠ fbk → u.heap[pb]? = some (.cells #[fl px, fl py] 50 (0, 0)) → u.heap[fbk]? = some (.cells #[.bool false] 4 (0, 0)) →
      Calls Tryz.prog 104 #[.pointer (some ⟨b, 0, none⟩), .agg #[fl px, fl py, fl px, fl py], .func (.func 105) #[] #[.pointer (some ⟨pb, 0, none⟩), .pointer (some ⟨fbk, 0, none⟩)]] u
      fun e w' => e = .returned (.tuple #[]) ∧ Keep [fbk] u w' ∧ w'.heap[fbk]? = some (.cells #[.bool r] 4 (0, 0))) :
    Calls Tryz.prog 102 #[.pointer (some ⟨b, 0, none⟩), .agg #[fl px, fl py]] w fun e w' => e = .returned (.bool r) ∧ Below w.heap.size w w' := by
  have st0 := ((Blk.nil w).push rfl #[fl px, fl py] 50).push (b := w.heap.size + 1) (by simp) #[.bool false] 4
  go_enter Tryz.func102, Tryz.ntmps102
  go_wp2
  generalize hW : (w.alloc (.cells #[fl px, fl py] 50)).alloc (.cells #[.bool false] 4) = W at *
  have r0 := st0.known 1 _ rfl
  have r1 := st0.known 0 _ rfl
  have hb0 := st0.hb
  generalize ho9 : w.heap.size + 1 = o9 at *
  refine wp_region_T [o9] [.val (.pointer (some ⟨b, 0, none⟩)), .val (.pointer (some ⟨b, 0, none⟩)), .val (.pointer (some ⟨b, 0, none⟩)), .val (.agg #[fl px, fl py]), .val (.agg #[fl px, fl py]), .val (.agg #[fl px, fl py, fl px, fl py]),
      .val (.func (.func 105) #[] #[.pointer (some ⟨w.heap.size, 0, none⟩), .pointer (some ⟨o9, 0, none⟩)]),
      .fin W (fun lo hi u => u.heap[o9]? = some (.cells #[.bool r] 4 (0, 0))) (fun lo hi u u' _ _ hk h1 => (hk o9 (.inl (lt_of_some r1))).trans h1)]
    [[.ini 0], [.frm 0 8], [.frm 1 9], [.ini 3], [.ini 3], [.frm 3 11, .frm 4 12], [.ini 3, .ini 5], [.til 7, .frm 2 10, .frm 5 13, .frm 6 14]]
    mixed (by kernel_rfl) (by kernel_rfl) (allPre_of ⟨trivial, trivial, trivial, trivial, trivial, trivial, trivial, (Below.refl _ W).drew, trivial⟩)
    ⟨OpOk.quiet rfl ?_, OpOk.quiet rfl ?_, OpOk.quiet rfl ?_, OpOk.quiet rfl ?_, OpOk.quiet rfl ?_, OpOk.quiet rfl ?_, OpOk.quiet rfl ?_,
      OpOk.fin rfl ⟨.inr (still_val _), .inr (still_val _), .inr (still_val _), .inr (still_val _), .inr (still_val _), .inr (still_val _), .inr (still_val _), .inl rfl, trivial⟩ (fun a u hf => hf.1) ?_, trivial⟩ ?_
  · intro a u _ hf
    simp [facts, Need.fact, Act.eval] at hf
    go_simp
  · intro a u _ hf
    simp [facts, Need.fact, Ent.val, Act.eval] at hf
    go_simp
  · intro a u _ hf
    simp [facts, Need.fact, Ent.val, Act.eval] at hf
    go_simp
  · intro a u hG hf
    simp [facts, Need.fact, Act.eval] at hf
    have hrow := (hG.block w.heap.size (lt_of_some r0) (by simp; omega)).trans r0
    have y0 := cellAt hrow 0
    have y1 := cellAt hrow 1
    simp only [List.getElem?_toArray, List.getElem?_cons_zero, List.getElem?_cons_succ] at y0 y1
    go_simp
  · intro a u hG hf
    simp [facts, Need.fact, Act.eval] at hf
    have hrow := (hG.block w.heap.size (lt_of_some r0) (by simp; omega)).trans r0
    have y0 := cellAt hrow 0
    have y1 := cellAt hrow 1
    simp only [List.getElem?_toArray, List.getElem?_cons_zero, List.getElem?_cons_succ] at y0 y1
    go_simp
  · intro a u _ hf
    simp [facts, Need.fact, Ent.val, Act.eval] at hf
    go_simp
  · intro a u _ hf
    simp [facts, Need.fact, Act.eval] at hf
    go_simp
  · intro a u hBu hf
    obtain ⟨-, hf⟩ := hf
    simp [facts, Need.fact, Ent.val, Act.eval] at hf
    refine ⟨_, _, by go_simp, (hfind u w.heap.size o9 (hb0.trans (hBu.mono hb0.size)) (Nat.le_refl _) (by omega) (by omega) ((hBu.block _ (lt_of_some r0)).trans r0) ((hBu.block _ (lt_of_some r1)).trans r1)).mono ?_⟩
    rintro e w' ⟨rfl, hK2, h1⟩
    refine ⟨_, rfl, hK2.size, ⟨hK2.os.trans hBu.os, hK2.tape.trans hBu.tape, hK2.output.trans hBu.output, Nat.le_trans hBu.size hK2.size, fun j hj hx => (hK2.block j (Nat.lt_of_lt_of_le hj hBu.size) hx).trans (hBu.block j hj)⟩, fun j g1 g2 => hK2.block j g2 (by have := lt_of_some r1; simp; omega), h1⟩
  intro u lw hw wc hKp hE hI hD
  simp only [allE, Ent.val, Ent.fin] at hE
  obtain ⟨u0, u1, u2, u3, u4, u5, u6, ⟨e1, e2, e3⟩, -⟩ := hE
  simp only [Nat.reduceAdd] at u0 u1 u2 u3 u4 u5 u6 e2 e3
  simp only [allPut, Act.put, Nat.reduceAdd, u0, u1, u2, u3, u4, u5, u6]
  try simp only [List.setIfInBounds_toArray, List.set_cons_zero, List.set_cons_succ]
  clear hI hD u0 u1 u2 u3 u4 u5 u6 hfind
  have x0 := cellAt e3 0
  simp only [List.getElem?_toArray, List.getElem?_cons_zero] at x0
  have hfin := hKp.belowX hb0 hb0.size (by simp; omega)
  go_wp2
  go_ret
  exact ⟨rfl, hfin⟩
end Go.Proofs.YtlpibeloedfbdaaGreat
set_option linter.unusedSimpArgs false
set_option linter.unusedVariables false
/-! Lines with any index: their methods, shaped, IntersectsLine's closure. -/
namespace Go.Proofs.YtlpibeloedfbdaaGreat
open Go.RowKit PF JR
theorem kNum {K : Nat} {closed : Bool} {l : List (Int × Int)} {T : TypeId} {lo hi b : Nat} {w : World} (H : SkP K closed l T lo hi b w) :
    Calls Tryz.prog 134 #[.pointer (some ⟨b, 0, none⟩)] w fun e w' => e = .returned (.int .i64 l.length) ∧ Below w.heap.size w w' := by
  obtain ⟨ix, v', -, -, -, h3, h4⟩ := H
  obtain ⟨A, c, rfl⟩ := h4.len
  have x := cellAt h3 9
  simp only [serC, List.getElem?_toArray, List.getElem?_cons_zero, List.getElem?_cons_succ] at x
  clear h3 h4
  go_enter Tryz.func134, Tryz.ntmps134
  go_wp2
  go_ret
  exact ⟨rfl, Below.refl _ _⟩
theorem kRect {K : Nat} {closed : Bool} {l : List (Int × Int)} {T : TypeId} {lo hi b : Nat} {w : World} (H : SkP K closed l T lo hi b w) :
    Calls Tryz.prog 97 #[.pointer (some ⟨b, 0, none⟩)] w fun e w' => e = .returned (.agg #[fl (fb (ppB closed l).1), fl (fb (ppB closed l).2.1), fl (fb (ppB closed l).2.2.1), fl (fb (ppB closed l).2.2.2)]) ∧ Below w.heap.size w w' := by
  obtain ⟨ix, v', -, -, -, h, -⟩ := H
  unfold serC at h
  generalize fb (ppB closed l).1 = r0 at *
  generalize fb (ppB closed l).2.1 = r1 at *
  generalize fb (ppB closed l).2.2.1 = r2 at *
  generalize fb (ppB closed l).2.2.2 = r3 at *
  have hlt := lt_of_some h
  have h' : (w.alloc (.cells #[fl 0, fl 0, fl 0, fl 0] 52)).heap[b]? = _ := (Below.heap_alloc w _ b hlt).trans h
  have x5 := cellAt h' 5
  have x6 := cellAt h' 6
  have x7 := cellAt h' 7
  have x8 := cellAt h' 8
  simp only [List.getElem?_toArray, List.getElem?_cons_zero, List.getElem?_cons_succ] at x5 x6 x7 x8
  go_enter Tryz.func97, Tryz.ntmps97
  go_wp2
  exact bodyPost_ret (v := .agg #[fl r0, fl r1, fl r2, fl r3]) (by simp [results, Tryz.results97, go_sem]) rfl ⟨rfl, by
    repeat first | exact Below.refl _ _ | refine Below.alloc ?_ (by simp <;> omega) _ | refine Below.setCell ?_ (by simp <;> omega) _⟩
theorem kEmpty {K : Nat} {l : List (Int × Int)} {T : TypeId} {lo hi b : Nat} {w : World} (H : SkP K false l T lo hi b w) (hn : 2 ≤ l.length) :
    Calls Tryz.prog 96 #[.pointer (some ⟨b, 0, none⟩)] w fun e w' => e = .returned (.bool false) ∧ Below w.heap.size w w' := by
  obtain ⟨ix, v', -, -, -, h, h4⟩ := H
  obtain ⟨A, c, rfl⟩ := h4.len
  have x0 := cellAt h 0
  have x9 := cellAt h 9
  simp only [serC, List.getElem?_toArray, List.getElem?_cons_zero, List.getElem?_cons_succ] at x0 x9
  clear h h4
  have d2 : ¬ (l.length : Int) < 2 := by omega
  have d2' := decide_eq_false d2
  clear hn
  go_enter Tryz.func96, Tryz.ntmps96
  go_wp2
  go_ret
  exact ⟨rfl, Below.refl _ _⟩
theorem linIP_c (n px py : Nat) (r : Bool) (w : World) (hcp : ∀ u, Below w.heap.size w u → Calls Tryz.prog 102 #[.pointer (some ⟨n, 0, none⟩), .agg #[fl px, fl py]] u fun e w' => e = .returned (.bool r) ∧ Below u.heap.size u w') :
    Calls Tryz.prog 100 #[.pointer (some ⟨n, 0, none⟩), .agg #[fl px, fl py]] w fun e w' => e = .returned (.bool r) ∧ Below w.heap.size w w' := by
  have st0 := (Blk.nil w).push rfl #[fl px, fl py] 50
  have y0 := st0.cell 0 rfl 0
  have y1 := st0.cell 0 rfl 1
  simp only [List.getElem?_toArray, List.getElem?_cons_zero, List.getElem?_cons_succ] at y0 y1
  go_enter Tryz.func100, Tryz.ntmps100
  go_wp2_with (go_at_call 102; refine JR.StopM.out ?_)
  refine ⟨?_⟩
  refine (hcp _ st0.hb).mono ?_
  rintro e w1 ⟨rfl, hb⟩
  have st1 := st0.ext hb
  go_wp2
  go_ret
  exact ⟨rfl, st1.hb⟩
end Go.Proofs.YtlpibeloedfbdaaGreat
set_option linter.unusedSimpArgs false
set_option linter.unusedVariables false
/-! Line.IntersectsLine (printed by gen/kd.py). -/
namespace Go.Proofs.YtlpibeloedfbdaaGreat
open Go.RowKit PF JR
theorem ppBF_bd {l : List (Int × Int)} (h2l : 2 ≤ l.length) (hbd : ∀ p ∈ l, Bnd p) : BdR (ppB false l) := by
  have e : ppB false l = box l := by unfold ppB tooS; rw [if_neg (by simp <;> omega)]
  rw [e]
  obtain ⟨-, ⟨p1, a1, b1⟩, ⟨p2, a2, b2⟩, ⟨p3, a3, b3⟩, ⟨p4, a4, b4⟩⟩ := box_spec l (by omega)
  have c1 := hbd p1 a1; have c2 := hbd p2 a2; have c3 := hbd p3 a3; have c4 := hbd p4 a4
  unfold Bnd at c1 c2 c3 c4
  unfold BdR Bd4
  omega
end Go.Proofs.YtlpibeloedfbdaaGreat
set_option linter.unusedSimpArgs false
set_option linter.unusedVariables false
/-! impl.Ask of a line and a point, impl.Intersects of two lines (printed by gen/ke.py). -/
namespace Go.Proofs.YtlpibeloedfbdaaGreat
open Go.RowKit PF JR
theorem SkP.narrow {K : Nat} {closed : Bool} {l : List (Int × Int)} {T : TypeId} {lo hi b : Nat} {w : World} (H : SkP K closed l T lo hi b w) : SkP K closed l T lo w.heap.size b w := by
  obtain ⟨ix, v', g0, g1, g2, g3, A, c, g5, g6⟩ := H
  refine ⟨ix, v', ?_, g1, lt_of_some g3, g3, A, c, g5, fun k p hp => ?_⟩
  · rcases g0 with h | ⟨h0, g, h1, h2, h3, h4⟩
    · exact .inl h
    · exact .inr ⟨h0, g, h1, h2, lt_of_some h4, h4⟩
  · obtain ⟨b', h1, h2, h3, h4, h5⟩ := g6 k p hp
    exact ⟨b', h1, h2, World.block_lt_of_cell? w _ h4, h4, h5⟩
theorem linHas_c (K : Nat) (hK : K ≤ 2) (l : List (Int × Int)) (hl : l.length ≤ 12) (h2l : 2 ≤ l.length) (hbd : ∀ p ∈ l, Bnd p) (p : Int × Int) (hpb : Bnd p) (ri ro : Nat → Bool)
    (hray : ∀ k, k < l.length - 1 → ∀ u, Calls Tryz.prog 106 #[sgv l k, .agg #[fl (fb p.1), fl (fb p.2)]] u fun e w' => e = .returned (.agg #[.bool (ri k), .bool (ro k)]) ∧ Below u.heap.size u w')
    (hmiss : ∀ k, k < l.length - 1 → ¬ ((sgx l k).1 ≤ p.1 ∧ p.1 ≤ (sgx l k).2.2.1 ∧ (sgx l k).2.1 ≤ p.2 ∧ p.2 ≤ (sgx l k).2.2.2) → ro k = false)
    (n lo : Nat) (w : World) (hS : SkP K false l 83 lo w.heap.size n w) (u : World) (hu : Below w.heap.size w u) :
    Calls Tryz.prog 102 #[.pointer (some ⟨n, 0, none⟩), .agg #[fl (fb p.1), fl (fb p.2)]] u fun e w' => e = .returned (.bool (anyN ro (l.length - 1))) ∧ Below u.heap.size u w' := by
  obtain ⟨p1, p2⟩ := hpb
  refine linCP_c n (fb p.1) (fb p.2) _ u fun z pb fbk hz h1 h2 h3 hp hf => ?_
  have hs := hu.size
  unfold sgv at hray
  exact any_find _ #[.pointer (some ⟨pb, 0, none⟩), .pointer (some ⟨fbk, 0, none⟩)] entL K hK false l hl h2l hbd 83 lo w.heap.size n z (hS.below (hu.trans (hz.mono hs))) (Nat.le_trans hs hz.size) fbk (by omega)
    (fb_rep _ (by omega)) (fb_rep _ (by omega)) (fb_rep _ (by omega)) (fb_rep _ (by omega)) ro hf
    (fun j y hj hKy hy => lcl_c _ _ _ _ _ _ (ri j) (ro j) j pb fbk y (hray j hj) ((hKy.block _ (lt_of_some hp) (by simp; omega)).trans hp) hy)
    (fun j hj hno => hmiss j hj (fun ⟨a, b, c, d⟩ => hno ⟨a, b, c, d⟩))
end Go.Proofs.YtlpibeloedfbdaaGreat
set_option linter.unusedSimpArgs false
set_option linter.unusedVariables false
/-! impl.Intersects of two lines. -/
namespace Go.Proofs.YtlpibeloedfbdaaGreat
open Go.RowKit PF JR
end Go.Proofs.YtlpibeloedfbdaaGreat
