import Derived.Test.YtdlcckkphjpeoaaGreatVn
import Derived.Test.YtdlcckkphjpeoaaGreatBlk
set_option linter.unusedSimpArgs false
set_option linter.unusedVariables false
/-! impl.pts: whole points as points of floats. -/
namespace PF
open Go Go.RowKit JR
def cellsF (l : List (Int × Int)) : List Value := l.flatMap fun p => [fl (fb p.1), fl (fb p.2)]
theorem cellsF_len (l : List (Int × Int)) : (cellsF l).length = l.length * 2 := by
  induction l with
  | nil => rfl
  | cons a l ih => simp [cellsF] at ih ⊢; omega
theorem cellsF_get (l : List (Int × Int)) : ∀ (k : Nat) (p : Int × Int), l[k]? = some p → (cellsF l)[k * 2]? = some (fl (fb p.1)) ∧ (cellsF l)[k * 2 + 1]? = some (fl (fb p.2)) := by
  induction l with
  | nil => intro k p h; simp at h
  | cons a l ih =>
    intro k p h
    cases k with
    | zero => simp at h; subst h; simp [cellsF]
    | succ k =>
      have := ih k p (by simpa using h)
      rw [show (k + 1) * 2 = k * 2 + 2 from by omega]
      simpa [cellsF] using this
theorem cellsF_snoc (l : List (Int × Int)) (k : Nat) (p : Int × Int) (h : l[k]? = some p) : cellsF (l.take (k + 1)) = cellsF (l.take k) ++ [fl (fb p.1), fl (fb p.2)] := by
  rw [List.take_add_one, h]
  simp [cellsF]
/-- the slice v holds the points of L as floats, in a block from number l up to h -/
def SlQ (l h : Nat) (w : World) (v : Value) (L : List (Int × Int)) : Prop :=
  ∃ A c, v = .slice A L.length c ∧ ∀ k p, L[k]? = some p → ∃ b, A = some ⟨b, 0, none⟩ ∧ l ≤ b ∧ b < h ∧ w.cell? ⟨b, 0 + k * 2, none⟩ = some (fl (fb p.1)) ∧ w.cell? ⟨b, 0 + k * 2 + 1, none⟩ = some (fl (fb p.2))
theorem SlQ.keep {l h : Nat} {w w' : World} {v : Value} {L : List (Int × Int)} (hk : ∀ b, l ≤ b → b < h → w'.heap[b]? = w.heap[b]?) (H : SlQ l h w v L) : SlQ l h w' v L := by
  obtain ⟨A, c, hv, hh⟩ := H
  refine ⟨A, c, hv, fun k p hp => ?_⟩
  obtain ⟨b, h1, h4, h5, h2, h3⟩ := hh k p hp
  exact ⟨b, h1, h4, h5, (World.cell?_of_block (hk b h4 h5)).trans h2, (World.cell?_of_block (hk b h4 h5)).trans h3⟩
theorem SlQ.own {w : World} {base l : Nat} {T : TypeId} {v : Value} {L : List (Int × Int)} (H : w.ownsRow base T 2 v L.length (cellsF L)) (hl : l ≤ base) : SlQ l w.heap.size w v L := by
  rcases H.2 with ⟨rfl, h0⟩ | ⟨g, cap, cur, rfl, _⟩
  · have : L = [] := List.eq_nil_of_length_eq_zero h0
    subst this
    exact ⟨none, 0, rfl, fun k p hp => by simp at hp⟩
  · refine ⟨_, _, rfl, fun k p hp => ?_⟩
    obtain ⟨h1, h2⟩ := cellsF_get L k p hp
    have a1 := H.cells (g := g) rfl _ _ h1
    have a2 := H.cells (g := g) rfl _ _ h2
    have e : ∀ j, (⟨g, 0, none⟩ : Addr).add j = ⟨g, 0 + j, none⟩ := fun j => by unfold Addr.add; split <;> simp_all
    rw [e] at a1 a2
    exact ⟨g, rfl, Nat.le_trans hl (H.lt g rfl).1, World.block_lt_of_cell? w _ a1, a1, a2⟩
/-- a new slice of these points, as floats -/
def _root_.JR.Ent.slq (L : List (Int × Int)) : Ent := .rel (fun v l h w => SlQ l h w v L) (fun _ _ _ _ _ hk H => H.keep hk)
end PF
namespace Go.Proofs.YtdlcckkphjpeoaaGreat
open Go.RowKit PF JR
theorem infoF : (Tryz.prog.info? 64).map (fun i => (i.zero, i.size, i.bytes)) = some (some (.agg #[fl 0, fl 0]), 2, 16) := by kernel_rfl

set_option maxHeartbeats 1000000 in
theorem pts_c (l : List (Int × Int)) (hl : l.length ≤ 2147483647) (v : Value) (w : World) (hv : SlP w v l) :
    Calls Tryz.prog 27 #[v] w fun e w' => ∃ v', e = .returned v' ∧ SlQ w.heap.size w'.heap.size w' v' l ∧ Below w.heap.size w w' := by
  obtain ⟨A, c, rfl, hk⟩ := hv
  obtain ⟨i0, hi, hz0, hz1, hz2⟩ := info_parts infoF
  go_enter Tryz.func27, Tryz.ntmps27
  go_wp2
  go_loopw [3, 8] (fun v i wr => ∃ k : Nat, k ≤ l.length ∧ i = .int .i64 k ∧ wr.ownsRow w.heap.size 64 2 v k (cellsF (l.take k)) ∧ Below w.heap.size w wr) (fun _ i _ => l.length - (intOf i).toNat)
  case atStart => exact ⟨0, Nat.zero_le _, rfl, World.ownsRow_nil _ _ _ _, Below.refl _ _⟩
  case round =>
    obtain ⟨k, hkl, rfl, hown, hnx⟩ := hrel
    have hsz := hnx.size
    rcases Nat.lt_or_ge k l.length with hlt | hge
    · obtain ⟨p, hp⟩ : ∃ p, l[k]? = some p := ⟨l[k], by simp [hlt]⟩
      obtain ⟨b, off, rfl, h1, h2⟩ := hk k p hp
      have g1 := (hnx.cell (World.block_lt_of_cell? w _ h1)).trans h1
      have g2 := (hnx.cell (World.block_lt_of_cell? w _ h2)).trans h2
      have hB1 := hnx.alloc hsz (.cells #[.int .i64 p.1, .int .i64 p.2] 29)
      have ho1 := hown.alloc (.cells #[.int .i64 p.1, .int .i64 p.2] 29)
      clear h1 h2 hk hown hnx
      go_wp2_with (first | (go_at_call 28; refine (pt_c p.1 p.2 _).mono ?_; rintro e w1 ⟨rfl, hc⟩; have ho2 := ho1.kept (Ext.grown hc none) (own_none _)) | (at_builtin; refine wpList_append_own _ rfl _ _ 72 rfl w.heap.size 64 i0 (.agg #[fl 0, fl 0]) 2 16 Tryz.underlying72 hi hz0 hz1 hz2 rfl (by decide) _ _ _ rfl (ho2.alloc _) ⟨w1.heap.size, 0, none⟩ 1 1 [fl (fb p.1), fl (fb p.2)] rfl rfl ?c1 ?c2 ?c3 ?c4 ?c5 ?_))
      case c1 => exact new_cells _ _ _ _
      case c2 => intro u hu; simp at hu; rcases hu with rfl | rfl <;> rfl
      case c3 => unfold maxLen; omega
      case c4 => omega
      case c5 => have := hc.size; simp at this ⊢; omega
      intro v' w2 hown' hgrow _
      have hs1 : w.heap.size ≤ w1.heap.size := by have := hc.size; simp at this; omega
      have hB := row_below ((hB1.trans (hc.mono (by simp; omega))).alloc hs1 _) hgrow (fun g hg => (ho2.lt g hg).1) (by simp; omega)
      rw [← cellsF_snoc _ k _ hp] at hown'
      clear hgrow ho2 ho1 hB1 hc g1 g2
      go_wp2
      go_roundw
      case rel => exact ⟨k + 1, by omega, by go_num, hown', hB⟩
      case measure => simp [intOf]; omega
    · have hkk : k = l.length := by omega
      subst hkk
      rw [List.take_length] at hown
      clear hk
      go_wp2
      go_ret
      exact ⟨_, rfl, SlQ.own hown (Nat.le_refl _), hnx⟩

theorem index0_c (w : World) : Calls Tryz.prog 22 #[.int .i64 0, .int .i64 0] w fun e w' => e = .returned (.pointer (some ⟨w.heap.size, 0, none⟩)) ∧ w' = w.alloc (.cells #[.int .u8 0, .int .i64 0] 99) := by
  go_enter Tryz.func22, Tryz.ntmps22
  go_wp2
  go_ret
  exact ⟨rfl, rfl⟩
end Go.Proofs.YtdlcckkphjpeoaaGreat
