import Derived.Test.YtlpibeloedfbdaaGreatRows
import Derived.Test.YtlpibeloedfbdaaGreatMath
import Derived.Test.YtlpibeloedfbdaaGreatJr
import Derived.Deep.DeepCutAuto
set_option linter.unusedSimpArgs false
set_option linter.unusedVariables false
/-! Segment.Raycast: its opening, and the region that moves the point up, each once (printed by gen/ra.py). -/
namespace Go.Proofs.YtlpibeloedfbdaaGreat
open Go.RowKit PF JR
/-- the operations of region k -/
def regOps (k : Nat) : Code → Array Oper
  | .region id ops _ => if id == k then ops else #[]
  | .seq a b => match regOps k a with
    | ⟨[]⟩ => regOps k b
    | x => x
  | .cond _ a b => match regOps k a with
    | ⟨[]⟩ => regOps k b
    | x => x
  | .block _ b => regOps k b
  | .loop b => regOps k b
  | .scope b => regOps k b
  | _ => #[]
/-- the three points lie in blocks b5, b6, b7 -/
structure RayS (ax ay bx bY px py : Nat) (w w0 wc : World) (b5 b6 b7 : Nat) : Prop where
  hc : ∀ b o : Nat, b < w.heap.size + 3 → wc.cell? ⟨b, o, none⟩ = w0.cell? ⟨b, o, none⟩
  hz : ∀ b o : Nat, b < w.heap.size + 3 → wc.frozen? ⟨b, o, none⟩ = w0.frozen? ⟨b, o, none⟩
  c50 : wc.cell? ⟨b5, 0, none⟩ = some (fl px)
  c51 : wc.cell? ⟨b5, 1, none⟩ = some (fl py)
  c60 : wc.cell? ⟨b6, 0, none⟩ = some (fl ax)
  c61 : wc.cell? ⟨b6, 1, none⟩ = some (fl ay)
  c70 : wc.cell? ⟨b7, 0, none⟩ = some (fl bx)
  c71 : wc.cell? ⟨b7, 1, none⟩ = some (fl bY)
  z50 : wc.frozen? ⟨b5, 0, none⟩ = false
  z51 : wc.frozen? ⟨b5, 1, none⟩ = false
  n5 : (w.heap.size + 2 = b5) = False
  n6 : (w.heap.size + 2 = b6) = False
  n7 : (w.heap.size + 2 = b7) = False
  n5' : (b5 = w.heap.size + 2) = False
  n6' : (b6 = w.heap.size + 2) = False
  n7' : (b7 = w.heap.size + 2) = False
  n56 : (b5 = b6) = False
  n65 : (b6 = b5) = False
  n57 : (b5 = b7) = False
  n75 : (b7 = b5) = False
  hB : Below w.heap.size w wc
  hsz : w.heap.size + 3 ≤ wc.heap.size
  m5 : w.heap.size ≤ b5
  G5 : Hid (wc.heap[b5]? = some (.cells #[fl px, fl py] 50 (0, 0)))
  M5 : Hid (b5 < wc.heap.size ∧ b6 < wc.heap.size ∧ b7 < wc.heap.size ∧ w.heap.size + 3 ≤ b5 ∧ b6 ≠ b5 ∧ b7 ≠ b5)
set_option maxRecDepth 100000 in
set_option maxHeartbeats 2000000 in
/-- the opening -/
theorem ray_reg {ops : Array Oper} (hops : ops = regOps 1 Tryz.f106.body.get!) {ax ay bx bY px py : Nat} {w : World} {Q : Exit → Act → World → Prop}
    (H : ∀ wc b5 b6 b7, RayS ax ay bx bY px py w (((w.alloc (.cells #[fl ax, fl ay, fl bx, fl bY] 73)).alloc (.cells #[fl px, fl py] 50)).alloc (.cells #[.bool false, .bool false] 163)) wc b5 b6 b7 →
      Q .normal { tmps := #[.agg #[fl ax, fl ay, fl bx, fl bY], .agg #[fl px, fl py], .pointer (some ⟨w.heap.size, 0, none⟩), .pointer (some ⟨w.heap.size + 1, 0, none⟩), .pointer (some ⟨w.heap.size + 1 + 1, 0, none⟩), .pointer (some ⟨b5, 0, none⟩), .pointer (some ⟨b6, 0, none⟩), .pointer (some ⟨b7, 0, none⟩), .agg #[fl px, fl py], .pointer (some ⟨w.heap.size, 0, none⟩), .agg #[fl ax, fl ay], .pointer (some ⟨w.heap.size, 2, none⟩), .agg #[fl bx, fl bY], undef, undef, undef, undef, undef, undef, undef, undef, undef, undef, undef, undef, undef, undef, undef, undef, undef, undef, undef, undef, undef, undef, undef, undef, undef, undef, undef, undef, undef, undef, undef, undef, undef, undef, undef, undef, undef, undef, undef, undef, undef, undef, undef, undef, undef, undef, undef, undef, undef, undef, undef, undef, undef, undef, undef, undef, undef, undef, undef, undef, undef, undef, undef, undef, undef, undef, undef, undef, undef, undef, undef, undef, undef, undef, undef, undef, undef, undef, undef, undef, undef, undef, undef, undef, undef, undef, undef, undef, undef, undef, undef, undef, undef, undef, undef, undef, undef, undef, undef, undef, undef, undef, undef, undef, undef, undef, undef, undef, undef, undef, undef, undef, undef, undef, undef, undef, undef, undef, undef, undef, undef, undef, undef, undef, undef, undef, undef, undef, undef, undef, undef, undef, undef, undef, undef, undef, undef, undef, undef, undef, undef, undef, undef, undef, undef, undef, undef, undef, undef, undef, undef, undef, undef, undef, undef, undef, undef, undef, undef, undef, undef, undef, undef, undef, undef, undef, undef, undef, undef, undef, undef, undef, undef, undef, undef, undef, undef, undef, undef, undef, undef, undef, undef, undef, undef, undef, undef, undef, undef, undef, undef, undef, undef, undef, undef, undef, undef, undef, undef, undef, undef, undef, undef, undef, undef, undef, undef, undef, undef, undef, undef, undef, undef, undef, undef, undef, undef, undef, undef, undef, undef, undef, undef, undef, undef, undef, undef, undef, undef, undef, undef, undef, undef, undef, undef, undef, undef, undef, undef, undef, undef, undef, undef, undef, undef, undef, undef, undef, undef, undef, undef, undef, undef, undef, undef, undef, undef, undef, undef, undef, undef, undef, undef, undef, undef, undef, undef, undef, undef, undef, undef, undef, undef, undef, undef, undef, undef, undef, undef, undef, undef, undef, undef, undef, undef, undef, undef, undef, undef], defers := [] } wc) :
    (Code.region 1 ops true).wp Tryz.prog Q { tmps := #[.agg #[fl ax, fl ay, fl bx, fl bY], .agg #[fl px, fl py], .pointer (some ⟨w.heap.size, 0, none⟩), .pointer (some ⟨w.heap.size + 1, 0, none⟩), .pointer (some ⟨w.heap.size + 1 + 1, 0, none⟩), undef, undef, undef, undef, undef, undef, undef, undef, undef, undef, undef, undef, undef, undef, undef, undef, undef, undef, undef, undef, undef, undef, undef, undef, undef, undef, undef, undef, undef, undef, undef, undef, undef, undef, undef, undef, undef, undef, undef, undef, undef, undef, undef, undef, undef, undef, undef, undef, undef, undef, undef, undef, undef, undef, undef, undef, undef, undef, undef, undef, undef, undef, undef, undef, undef, undef, undef, undef, undef, undef, undef, undef, undef, undef, undef, undef, undef, undef, undef, undef, undef, undef, undef, undef, undef, undef, undef, undef, undef, undef, undef, undef, undef, undef, undef, undef, undef, undef, undef, undef, undef, undef, undef, undef, undef, undef, undef, undef, undef, undef, undef, undef, undef, undef, undef, undef, undef, undef, undef, undef, undef, undef, undef, undef, undef, undef, undef, undef, undef, undef, undef, undef, undef, undef, undef, undef, undef, undef, undef, undef, undef, undef, undef, undef, undef, undef, undef, undef, undef, undef, undef, undef, undef, undef, undef, undef, undef, undef, undef, undef, undef, undef, undef, undef, undef, undef, undef, undef, undef, undef, undef, undef, undef, undef, undef, undef, undef, undef, undef, undef, undef, undef, undef, undef, undef, undef, undef, undef, undef, undef, undef, undef, undef, undef, undef, undef, undef, undef, undef, undef, undef, undef, undef, undef, undef, undef, undef, undef, undef, undef, undef, undef, undef, undef, undef, undef, undef, undef, undef, undef, undef, undef, undef, undef, undef, undef, undef, undef, undef, undef, undef, undef, undef, undef, undef, undef, undef, undef, undef, undef, undef, undef, undef, undef, undef, undef, undef, undef, undef, undef, undef, undef, undef, undef, undef, undef, undef, undef, undef, undef, undef, undef, undef, undef, undef, undef, undef, undef, undef, undef, undef, undef, undef, undef, undef, undef, undef, undef, undef, undef, undef, undef, undef, undef, undef, undef, undef, undef, undef, undef, undef, undef, undef, undef, undef, undef, undef], defers := [] } (((w.alloc (.cells #[fl ax, fl ay, fl bx, fl bY] 73)).alloc (.cells #[fl px, fl py] 50)).alloc (.cells #[.bool false, .bool false] 163)) := by
  simp only [regOps, Tryz.f106, Option.get!, Nat.reduceBEq, Bool.false_eq_true, if_false, if_true] at hops
  subst hops
  refine wp_region_K [] [.val (.agg #[fl px, fl py]), .val (.pointer (some ⟨w.heap.size, 0, none⟩)), .val (.agg #[fl ax, fl ay]), .val (.pointer (some ⟨w.heap.size, 2, none⟩)), .val (.agg #[fl bx, fl bY]),
      .made 50 2, .made 50 2, .made 50 2, .filled 5 #[fl px, fl py] 50, .filled 6 #[fl ax, fl ay] 50, .filled 7 #[fl bx, fl bY] 50]
    [[.ini 3], [.ini 2], [.frm 1 9], [.ini 2], [.frm 3 11], [], [], [], [.frm 5 5, .frm 0 8], [.frm 6 6, .frm 2 10], [.frm 7 7, .frm 4 12]]
    mixed (by kernel_rfl) (by kernel_rfl) (by simp [Ent.val, Ent.made, Ent.filledP]) ⟨OpOk.quiet rfl ?_, OpOk.quiet rfl ?_, OpOk.quiet rfl ?_, OpOk.quiet rfl ?_, OpOk.quiet rfl ?_, OpOk.made (cs := #[fl 0, fl 0]) rfl rfl ?_, OpOk.made (cs := #[fl 0, fl 0]) rfl rfl ?_, OpOk.made (cs := #[fl 0, fl 0]) rfl rfl ?_,
      OpOk.fillRow (k := 5) rfl rfl (by kernel_rfl) rfl ?_ (by kernel_rfl) (by simp [Value.oneCell']) ?_ ?_, OpOk.fillRow (k := 6) rfl rfl (by kernel_rfl) rfl ?_ (by kernel_rfl) (by simp [Value.oneCell']) ?_ ?_, OpOk.fillRow (k := 7) rfl rfl (by kernel_rfl) rfl ?_ (by kernel_rfl) (by simp [Value.oneCell']) ?_ ?_, trivial⟩ ?_
  all_goals first
    | (intro a u hG hf
       simp [facts, Need.fact, Ent.val, Act.eval] at hf
       have hc := fun (b o : Nat) (h : b < w.heap.size + 3) => hG.cell (p := ⟨b, o, none⟩) (by simpa using h) (by simp)
       go_simp
       done)
    | (simp [Ent.val, Ent.made, Ent.filledP]; done)
    | exact fun a w hf => ⟨hf.1, hf.2.1.elim fun _ h => h.elim fun _ h => h⟩
    | exact fun w b cs h hb => Keep.setRow h (.inl hb)
    | skip
  intro u l h wc hK hE hI hD
  simp [allE, allPut, Act.put, Act.eval, Ent.val, Ent.made, Ent.filledP] at hE
  obtain ⟨u0, u1, u2, u3, u4, ⟨b5, u5, l5, h5, -⟩, ⟨b6, u6, l6, h6, -⟩, ⟨b7, u7, l7, h7, -⟩, ⟨b5', v5, g5⟩, ⟨b6', v6, g6⟩, ⟨b7', v7, g7⟩⟩ := hE
  obtain rfl : b5 = b5' := by rw [u5] at v5; simpa using v5
  obtain rfl : b6 = b6' := by rw [u6] at v6; simpa using v6
  obtain rfl : b7 = b7' := by rw [u7] at v7; simpa using v7
  simp only [allPut, Act.put, u0, u1, u2, u3, u4, u5, u6, u7]
  have i5 := hI 5 (by simp)
  have i6 := hI 6 (by simp)
  have i7 := hI 7 (by simp)
  have d56 := hD 5 6 (by simp) (by simp) (by omega)
  have d57 := hD 5 7 (by simp) (by simp) (by omega)
  simp at i5 i6 i7
  have c50 := cellAt g5 0
  have c51 := cellAt g5 1
  have c60 := cellAt g6 0
  have c61 := cellAt g6 1
  have c70 := cellAt g7 0
  have c71 := cellAt g7 1
  simp only [List.getElem?_toArray, List.getElem?_cons_zero, List.getElem?_cons_succ] at c50 c51 c60 c61 c70 c71
  have hsz : w.heap.size + 3 ≤ wc.heap.size := by simpa using hK.size
  try simp only [List.setIfInBounds_toArray, List.set_cons_zero, List.set_cons_succ]
  refine H wc b5 b6 b7 ⟨fun b o h => hK.cell (p := ⟨b, o, none⟩) (by simpa using h) (by simp), fun b o h => hK.frozen (p := ⟨b, o, none⟩) (by simpa using h) (by simp), c50, c51, c60, c61, c70, c71, frozenAt g5 0, frozenAt g5 1,
    by simp; omega, by simp; omega, by simp; omega, by simp; omega, by simp; omega, by simp; omega, by simp; omega, by simp; omega, by simp; omega, by simp; omega,
    (((Below.refl _ _).alloc (Nat.le_refl _) _).alloc (by simp) _ |>.alloc (by simp; omega) _).trans (hK.below.mono (by simp; omega)), hsz, by omega, g5, ⟨by omega, by omega, by omega, by omega, by omega, by omega⟩⟩
end Go.Proofs.YtlpibeloedfbdaaGreat
set_option linter.unusedSimpArgs false
set_option linter.unusedVariables false
/-! Segment.Raycast: the region that moves the point up, once. -/
namespace Go.Proofs.YtlpibeloedfbdaaGreat
open Go.RowKit PF JR
/-- the point has been moved up -/
structure RayN (ax ay bx bY px x' : Nat) (Py : Int) (w w0 wd : World) (b5 b6 b7 : Nat) : Prop where
  hN : Nxt x' Py
  hcd : ∀ b o : Nat, b < w.heap.size + 3 → wd.cell? ⟨b, o, none⟩ = w0.cell? ⟨b, o, none⟩
  hzd : ∀ b o : Nat, b < w.heap.size + 3 → wd.frozen? ⟨b, o, none⟩ = w0.frozen? ⟨b, o, none⟩
  k50 : wd.cell? ⟨b5, 0, none⟩ = some (fl px)
  k51 : wd.cell? ⟨b5, 1, none⟩ = some (fl x')
  k60 : wd.cell? ⟨b6, 0, none⟩ = some (fl ax)
  k61 : wd.cell? ⟨b6, 1, none⟩ = some (fl ay)
  k70 : wd.cell? ⟨b7, 0, none⟩ = some (fl bx)
  k71 : wd.cell? ⟨b7, 1, none⟩ = some (fl bY)
  hBd : Below w.heap.size w wd
set_option maxRecDepth 100000 in
set_option maxHeartbeats 2000000 in
theorem ray_next {ops : Array Oper} {ax ay bx bY px py : Nat} {Py : Int} {w w0 wc wX : World} {b5 b6 b7 : Nat} {a0 : Act} {Q : Exit → Act → World → Prop}
    (hpy : Rep py Py) (hbd : -16384 ≤ Py ∧ Py ≤ 16384) (hX : wX = wc ∨ wX = wc.drew) (hops : ops = regOps 26 Tryz.f106.body.get!) (h5 : a0.eval (.tmp 5) = .pointer (some ⟨b5, 0, none⟩)) (hts : a0.tmps.size = 302)
    (S : RayS ax ay bx bY px py w w0 wc b5 b6 b7)
    (H : ∀ x0 x' wd, RayN ax ay bx bY px x' Py w w0 wd b5 b6 b7 →
      Q .normal { a0 with tmps := ((((a0.tmps.setIfInBounds 183 (.pointer (some ⟨b5, 1, none⟩))).setIfInBounds 184 (fl py)).setIfInBounds 185 (fl 9218868437227405312)).setIfInBounds 186 (fl x0)).setIfInBounds 187 (.pointer (some ⟨b5, 1, none⟩)) } wd) :
    (Code.region 26 ops true).wp Tryz.prog Q a0 wX := by
  obtain ⟨hc, hz, c50, c51, c60, c61, c70, c71, z50, z51, n5, n6, n7, n5', n6', n7', n56, n65, n57, n75, hB, hsz, m5, G5, M5⟩ := S
  clear n5 n6 n7 n5' n6' n7' n56 n65 n57 n75 c50 c51 z50 z51
  simp only [regOps, Tryz.f106, Option.get!, Nat.reduceBEq, Bool.false_eq_true, if_false, if_true] at hops
  subst hops
  rcases hX with rfl | rfl
  all_goals
    refine wp_region_K [b5] [.val (.pointer (some ⟨b5, 1, none⟩)), .val (fl py), .val (fl 9218868437227405312), .of (fun v => ∃ x', v = fl x' ∧ Nxt x' Py), .val (.pointer (some ⟨b5, 1, none⟩)),
        .turn b5 #[fl px, fl py] (fun cs => ∃ x', cs = #[fl px, fl x'] ∧ Nxt x' Py) 50]
      [[.ini 5], [.frm 0 183, .til 5], [], [.frm 1 184, .frm 2 185], [.ini 5], [.frm 4 187, .frm 3 186, .til 5]]
      mixed (by rw [hts]; kernel_rfl) (by kernel_rfl) (by simp [Ent.val, Ent.of, Ent.turn]; exact G5.out) ⟨OpOk.quiet rfl ?_, OpOk.quiet rfl ?_, OpOk.call rfl ?_, OpOk.call rfl ?_, OpOk.quiet rfl ?_, OpOk.turn rfl ?_ (by kernel_rfl) ?_ ?_ ?_, trivial⟩ ?_
    · intro a u hG hf
      simp [facts, Need.fact, Ent.val] at hf
      rw [h5] at hf
      simp only [Act.eval] at hf
      go_simp
    · intro a u hG hf
      have hf2 : u.heap[b5]? = some (.cells #[fl px, fl py] 50 (0, 0)) := hf.2.1
      have hc5 := cellAt hf2 1
      simp only [List.getElem?_toArray, List.getElem?_cons_zero, List.getElem?_cons_succ] at hc5
      simp [facts, Need.fact, Ent.val, Ent.turn, Act.eval] at hf
      go_simp
    · intro a u hG hf
      refine ⟨_, _, by go_simp, (inf_c _).mono ?_⟩
      rintro e w' ⟨rfl, rfl⟩
      exact ⟨_, rfl, Ext.refl _, rfl⟩
    · intro a u hG hf
      simp [facts, Need.fact, Ent.val, Act.eval] at hf
      refine ⟨_, _, by go_simp, (nextafter_c hpy (by omega) _).mono ?_⟩
      rintro e w' ⟨x', rfl, hN, rfl⟩
      exact ⟨_, rfl, Ext.refl _, x', rfl, hN⟩
    · intro a u hG hf
      simp [facts, Need.fact, Ent.val] at hf
      rw [h5] at hf
      simp only [Act.eval] at hf
      go_simp
    · exact M5.out.1
    · intro j e he hj
      match j, he, hj with
      | 0, he, _ => simp at he; subst he; simp [Ent.val]
      | 1, he, _ => simp at he; subst he; simp [Ent.val]
      | 2, he, _ => simp at he; subst he; simp [Ent.val]
      | 3, he, _ => simp at he; subst he; simp [Ent.of]
      | 4, he, _ => simp at he; subst he; simp [Ent.val]
      | 5, _, hj => exact absurd rfl hj
      | j + 6, he, _ => simp at he
    · intro a u hG hf
      obtain ⟨⟨_, _, f1⟩, ⟨_, _, x', f2, hN⟩, f3, _⟩ := hf
      have f1 : a.eval (.tmp 187) = .pointer (some ⟨b5, 1, none⟩) := f1
      have f2 : a.eval (.tmp 186) = fl x' := f2
      have f3 : u.heap[b5]? = some (.cells #[fl px, fl py] 50 (0, 0)) := f3
      exact ⟨_, _, _, f3, run_store_cell 39 (.tmp 187) (.tmp 186) rfl b5 1 (fl x') f1 f2 50 _ f3 (by kernel_rfl) (by simp) rfl, .inl rfl, x', rfl, hN⟩
    · exact fun u cs h => Keep.setRow h (.inr (by simp))
    intro u' l' h' wd hK' hE' hI' hD'
    simp [allE, allPut, Act.put, Act.eval, Ent.val, Ent.of, Ent.turn] at hE'
    obtain ⟨v0, v1, v2, ⟨x0, v3, -⟩, v4, cs', ⟨x', rfl, hN⟩, g5'⟩ := hE'
    simp only [allPut, Act.put, v0, v1, v2, v3, v4]
    have m56 := M5.out
    have k50 := cellAt g5' 0
    have k51 := cellAt g5' 1
    simp only [List.getElem?_toArray, List.getElem?_cons_zero, List.getElem?_cons_succ] at k50 k51
    exact H x0 x' wd ⟨hN, fun b o h => (hK'.cell (p := ⟨b, o, none⟩) (Nat.lt_of_lt_of_le h hsz) (show b ∉ [b5] by simp; omega)).trans (hc b o h),
      fun b o h => (hK'.frozen (p := ⟨b, o, none⟩) (Nat.lt_of_lt_of_le h hsz) (show b ∉ [b5] by simp; omega)).trans (hz b o h), k50, k51,
      (hK'.cell (p := ⟨b6, 0, none⟩) m56.2.1 (by simp; omega)).trans c60, (hK'.cell (p := ⟨b6, 1, none⟩) m56.2.1 (by simp; omega)).trans c61,
      (hK'.cell (p := ⟨b7, 0, none⟩) m56.2.2.1 (by simp; omega)).trans c70, (hK'.cell (p := ⟨b7, 1, none⟩) m56.2.2.1 (by simp; omega)).trans c71,
      hB.trans ⟨hK'.os, hK'.tape, hK'.output, hK'.size, fun k hk => hK'.block k (Nat.lt_of_lt_of_le hk (Nat.le_trans (Nat.le_add_right _ 3) hsz)) (by simp; omega)⟩⟩
end Go.Proofs.YtlpibeloedfbdaaGreat
