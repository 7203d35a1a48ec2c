import Derived.Test.YtlpibeloedfbdaaGreatVn
import Derived.Test.YtlpibeloedfbdaaGreatBlk
import Derived.Laws.CopyRow
import Derived.Laws.CopyOwn
set_option linter.unusedSimpArgs false
set_option linter.unusedVariables false
/-! impl.pts: whole points as points of floats. -/
namespace PF
open Go Go.RowKit JR
def cellsF (l : List (Int × Int)) : List Value := l.flatMap fun p => [fl (fb p.1), fl (fb p.2)]
theorem cellsF_len (l : List (Int × Int)) : (cellsF l).length = l.length * 2 := by
  induction l with
  | nil => rfl
  | cons a l ih => simp [cellsF] at ih ⊢; omega
theorem cellsF_get (l : List (Int × Int)) : ∀ (k : Nat) (p : Int × Int), l[k]? = some p → (cellsF l)[k * 2]? = some (fl (fb p.1)) ∧ (cellsF l)[k * 2 + 1]? = some (fl (fb p.2)) := by
  induction l with
  | nil => intro k p h; simp at h
  | cons a l ih =>
    intro k p h
    cases k with
    | zero => simp at h; subst h; simp [cellsF]
    | succ k =>
      have := ih k p (by simpa using h)
      rw [show (k + 1) * 2 = k * 2 + 2 from by omega]
      simpa [cellsF] using this
theorem cellsF_snoc (l : List (Int × Int)) (k : Nat) (p : Int × Int) (h : l[k]? = some p) : cellsF (l.take (k + 1)) = cellsF (l.take k) ++ [fl (fb p.1), fl (fb p.2)] := by
  rw [List.take_add_one, h]
  simp [cellsF]
/-- the slice v holds the points of L as floats, in a block from number l up to h -/
def SlQ (l h : Nat) (w : World) (v : Value) (L : List (Int × Int)) : Prop :=
  ∃ A c, v = .slice A L.length c ∧ ∀ k p, L[k]? = some p → ∃ b, A = some ⟨b, 0, none⟩ ∧ l ≤ b ∧ b < h ∧ w.cell? ⟨b, 0 + k * 2, none⟩ = some (fl (fb p.1)) ∧ w.cell? ⟨b, 0 + k * 2 + 1, none⟩ = some (fl (fb p.2))
theorem SlQ.keep {l h : Nat} {w w' : World} {v : Value} {L : List (Int × Int)} (hk : ∀ b, l ≤ b → b < h → w'.heap[b]? = w.heap[b]?) (H : SlQ l h w v L) : SlQ l h w' v L := by
  obtain ⟨A, c, hv, hh⟩ := H
  refine ⟨A, c, hv, fun k p hp => ?_⟩
  obtain ⟨b, h1, h4, h5, h2, h3⟩ := hh k p hp
  exact ⟨b, h1, h4, h5, (World.cell?_of_block (hk b h4 h5)).trans h2, (World.cell?_of_block (hk b h4 h5)).trans h3⟩
theorem SlQ.own {w : World} {base l : Nat} {T : TypeId} {v : Value} {L : List (Int × Int)} (H : w.ownsRow base T 2 v L.length (cellsF L)) (hl : l ≤ base) : SlQ l w.heap.size w v L := by
  rcases H.2 with ⟨rfl, h0⟩ | ⟨g, cap, cur, rfl, _⟩
  · have : L = [] := List.eq_nil_of_length_eq_zero h0
    subst this
    exact ⟨none, 0, rfl, fun k p hp => by simp at hp⟩
  · refine ⟨_, _, rfl, fun k p hp => ?_⟩
    obtain ⟨h1, h2⟩ := cellsF_get L k p hp
    have a1 := H.cells (g := g) rfl _ _ h1
    have a2 := H.cells (g := g) rfl _ _ h2
    have e : ∀ j, (⟨g, 0, none⟩ : Addr).add j = ⟨g, 0 + j, none⟩ := fun j => by unfold Addr.add; split <;> simp_all
    rw [e] at a1 a2
    exact ⟨g, rfl, Nat.le_trans hl (H.lt g rfl).1, World.block_lt_of_cell? w _ a1, a1, a2⟩
/-- a new slice of these points, as floats -/
def _root_.JR.Ent.slq (L : List (Int × Int)) : Ent := .rel (fun v l h w => SlQ l h w v L) (fun _ _ _ _ _ hk H => H.keep hk)
end PF
namespace Go.Proofs.YtlpibeloedfbdaaGreat
open Go.RowKit PF JR
theorem infoF : (Tryz.prog.info? 50).map (fun i => (i.zero, i.size, i.bytes)) = some (some (.agg #[fl 0, fl 0]), 2, 16) := by kernel_rfl

set_option maxHeartbeats 1000000 in
theorem pts_c (l : List (Int × Int)) (hl : l.length ≤ 2147483647) (v : Value) (w : World) (hv : SlP w v l) :
    Calls Tryz.prog 19 #[v] w fun e w' => ∃ v', e = .returned v' ∧ SlQ w.heap.size w'.heap.size w' v' l ∧ Below w.heap.size w w' := by
  obtain ⟨A, c, rfl, hk⟩ := hv
  obtain ⟨i0, hi, hz0, hz1, hz2⟩ := info_parts infoF
  go_enter Tryz.func19, Tryz.ntmps19
  go_wp2
  go_loopw [3, 8] (fun v i wr => ∃ k : Nat, k ≤ l.length ∧ i = .int .i64 k ∧ wr.ownsRow w.heap.size 50 2 v k (cellsF (l.take k)) ∧ Below w.heap.size w wr) (fun _ i _ => l.length - (intOf i).toNat)
  case atStart => exact ⟨0, Nat.zero_le _, rfl, World.ownsRow_nil _ _ _ _, Below.refl _ _⟩
  case round =>
    obtain ⟨k, hkl, rfl, hown, hnx⟩ := hrel
    have hsz := hnx.size
    rcases Nat.lt_or_ge k l.length with hlt | hge
    · obtain ⟨p, hp⟩ : ∃ p, l[k]? = some p := ⟨l[k], by simp [hlt]⟩
      obtain ⟨b, off, rfl, h1, h2⟩ := hk k p hp
      have g1 := (hnx.cell (World.block_lt_of_cell? w _ h1)).trans h1
      have g2 := (hnx.cell (World.block_lt_of_cell? w _ h2)).trans h2
      have hB1 := hnx.alloc hsz (.cells #[.int .i64 p.1, .int .i64 p.2] 23)
      have ho1 := hown.alloc (.cells #[.int .i64 p.1, .int .i64 p.2] 23)
      clear h1 h2 hk hown hnx
      go_wp2_with (first | (go_at_call 20; refine (pt_c p.1 p.2 _).mono ?_; rintro e w1 ⟨rfl, hc⟩; have ho2 := ho1.kept (Ext.grown hc none) (own_none _)) | (at_builtin; refine wpList_append_own _ rfl _ _ 58 rfl w.heap.size 50 i0 (.agg #[fl 0, fl 0]) 2 16 Tryz.underlying58 hi hz0 hz1 hz2 rfl (by decide) _ _ _ rfl (ho2.alloc _) ⟨w1.heap.size, 0, none⟩ 1 1 [fl (fb p.1), fl (fb p.2)] rfl rfl ?c1 ?c2 ?c3 ?c4 ?c5 ?_))
      case c1 => exact new_cells _ _ _ _
      case c2 => intro u hu; simp at hu; rcases hu with rfl | rfl <;> rfl
      case c3 => unfold maxLen; omega
      case c4 => omega
      case c5 => have := hc.size; simp at this ⊢; omega
      intro v' w2 hown' hgrow _
      have hs1 : w.heap.size ≤ w1.heap.size := by have := hc.size; simp at this; omega
      have hB := row_below ((hB1.trans (hc.mono (by simp; omega))).alloc hs1 _) hgrow (fun g hg => (ho2.lt g hg).1) (by simp; omega)
      rw [← cellsF_snoc _ k _ hp] at hown'
      clear hgrow ho2 ho1 hB1 hc g1 g2
      go_wp2
      go_roundw
      case rel => exact ⟨k + 1, by omega, by go_num, hown', hB⟩
      case measure => simp [intOf]; omega
    · have hkk : k = l.length := by omega
      subst hkk
      rw [List.take_length] at hown
      clear hk
      go_wp2
      go_ret
      exact ⟨_, rfl, SlQ.own hown (Nat.le_refl _), hnx⟩

end Go.Proofs.YtlpibeloedfbdaaGreat
set_option linter.unusedSimpArgs false
set_option linter.unusedVariables false
/-! copy of elements of more than one cell, over a whole row of the call's own. -/
namespace PF
open Go Go.RowKit JR
theorem run_copy_wide {P : Program} (w : World) (dT sT ty elem : TypeId) (g dLen dCap : Nat) (a : Addr) (sLen sCap s : Nat) (cur : Array Value) (t : TypeId) (cs : List Value)
    (hu : P.underlying dT = some (.slice elem)) (hs : (P.info? elem).map (·.size) = some s) (hg : w.heap[g]? = some (.cells cur t (0, 0))) (hn : cs.length = Nat.min sLen dLen * s)
    (hsrc : ∀ j v, cs[j]? = some v → w.cell? (a.add j) = some v) (hfit : cs.length ≤ cur.size) (h1 : ∀ v ∈ cs, v.oneCell' = true) :
    (Builtin.copy_ #[dT, sT] ty #[.slice (some ⟨g, 0, none⟩) dLen dCap, .slice (some a) sLen sCap]).run P w = .ok (goInt (Nat.min sLen dLen)) (w.setRow g (cs ++ cur.toList.drop cs.length).toArray) := by
  have hl := run_loadCells_list (P := P) w a cs hsrc
  have hst := run_storeCells_at P g 0 t cs 0 cur w hg (by simpa using hfit) h1
  cases hq : P.info? elem with
  | none => simp [hq] at hs
  | some i =>
    have hi : i.size = s := by simpa [hq] using hs
    simp at hst
    simp [Builtin.copy_, run_underlying hu, Builtin.lenOf, Builtin.firstCells, Go.sizeOf, Go.typeInfo, hq, hi, ← hn, hl, hst]

end PF
set_option linter.unusedSimpArgs false
set_option linter.unusedVariables false
namespace Go.Proofs.YtlpibeloedfbdaaGreat
open Go.RowKit PF JR
theorem _root_.PF.SlQ.src {lo h : Nat} {u : World} {b n c : Nat} {l : List (Int × Int)} (H : SlQ lo h u (.slice (some ⟨b, 0, none⟩) n c) l) : ∀ (j : Nat) (v : Value), (cellsF l)[j]? = some v → u.cell? ((⟨b, 0, none⟩ : Addr).add j) = some v := by
  intro j v hj
  have hlt : j < l.length * 2 := by
    rw [← cellsF_len]
    rcases Nat.lt_or_ge j (cellsF l).length with h | h
    · exact h
    · rw [List.getElem?_eq_none h] at hj; cases hj
  have hk : j / 2 < l.length := by omega
  obtain ⟨p, hp⟩ : ∃ p, l[j / 2]? = some p := ⟨l[j / 2], by simp [hk]⟩
  obtain ⟨A, c', hv, hh⟩ := H
  obtain ⟨b', hA, -, -, h1, h2⟩ := hh (j / 2) p hp
  obtain ⟨e1, e2⟩ := cellsF_get l (j / 2) p hp
  have hb : b' = b := by
    rw [hA] at hv
    simp at hv
    exact hv.1.symm
  subst hb
  have ea : (⟨b', 0, none⟩ : Addr).add j = ⟨b', 0 + j, none⟩ := by unfold Addr.add; split <;> simp_all
  rw [ea]
  rcases Nat.mod_two_eq_zero_or_one j with hm | hm
  · have : j / 2 * 2 = j := by omega
    rw [this] at e1 h1
    rw [hj] at e1
    rw [h1, e1]
  · have : j / 2 * 2 + 1 = j := by omega
    rw [this] at e2
    rw [show 0 + j / 2 * 2 + 1 = 0 + j by omega] at h2
    rw [hj] at e2
    rw [h2, e2]
theorem _root_.PF.cellsF_one (l : List (Int × Int)) : ∀ v ∈ cellsF l, v.oneCell' = true := by
  intro v hv
  unfold cellsF at hv
  rw [List.mem_flatMap] at hv
  obtain ⟨p, -, hp⟩ := hv
  simp at hp
  rcases hp with rfl | rfl <;> rfl
theorem _root_.PF.Blk.row {w u : World} {L : List (Nat × Array Value × TypeId)} (h : Blk w u L) (i : Nat) {b : Nat} {cs cs' : Array Value} {T : TypeId} (hi : L[i]? = some (b, cs, T)) (hne : apart b i 0 L) (hw : w.heap.size ≤ b) : Blk w (u.setRow b cs') (L.set i (b, cs', T)) := by
  have hk := h.known i _ hi
  refine ⟨fun j x hx => ?_, h.hb.trans ⟨rfl, rfl, rfl, by rw [JR.setRow_size]; exact Nat.le_refl _, fun k hk' => JR.setRow_other (by omega)⟩⟩
  by_cases hj : j = i
  · subst hj
    rw [List.getElem?_set_self (by rw [List.getElem?_eq_some_iff] at hi; exact hi.1)] at hx
    cases hx
    exact JR.setRow_same hk
  · rw [List.getElem?_set_ne (fun h => hj h.symm)] at hx
    exact (JR.setRow_other (apart_get L 0 hne j x (by omega) hx)).trans (h.known j x hx)
theorem _root_.PF.Blk.slq {w u : World} {L : List (Nat × Array Value × TypeId)} (h : Blk w u L) (i : Nat) {b : Nat} {l : List (Int × Int)} {T : TypeId} (hi : L[i]? = some (b, (cellsF l).toArray, T)) (c : Nat) : SlQ b (b + 1) u (.slice (some ⟨b, 0, none⟩) l.length c) l := by
  refine ⟨_, c, rfl, fun k p hp => ⟨b, rfl, Nat.le_refl _, by omega, ?_⟩⟩
  obtain ⟨h1, h2⟩ := cellsF_get l k p hp
  rw [h.cell i hi, h.cell i hi]
  simp [h1, h2]
theorem _root_.PF.slq_row {u : World} {lo h b c : Nat} {l : List (Int × Int)} {T : TypeId} (hr : u.heap[b]? = some (.cells (cellsF l).toArray T (0, 0))) (h1 : lo ≤ b) (h2 : b < h) : SlQ lo h u (.slice (some ⟨b, 0, none⟩) l.length c) l := by
  refine ⟨_, c, rfl, fun k p hp => ⟨b, rfl, h1, h2, ?_⟩⟩
  obtain ⟨e1, e2⟩ := cellsF_get l k p hp
  rw [cellAt hr, cellAt hr]
  simp [e1, e2]
structure _root_.JR.StopM (p : Prop) : Prop where out : p

end Go.Proofs.YtlpibeloedfbdaaGreat
