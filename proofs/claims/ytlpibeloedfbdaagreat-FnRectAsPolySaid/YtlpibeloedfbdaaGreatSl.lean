import Derived.Test.YtlpibeloedfbdaaGreatRect
import Derived.Test.YtlpibeloedfbdaaGreatJa
import Derived.OwnWalk
import Derived.LoopTactic
set_option linter.unusedSimpArgs false
set_option linter.unusedVariables false
namespace PF
open Go Go.RowKit
def cellsP (l : List (Int × Int)) : List Value := l.flatMap fun p => [.int .i64 p.1, .int .i64 p.2]
theorem cellsP_get (l : List (Int × Int)) : ∀ (k : Nat) (p : Int × Int), l[k]? = some p → (cellsP l)[k * 2]? = some (.int .i64 p.1) ∧ (cellsP l)[k * 2 + 1]? = some (.int .i64 p.2) := by
  induction l with
  | nil => intro k p h; simp at h
  | cons a l ih =>
    intro k p h
    cases k with
    | zero => simp at h; subst h; simp [cellsP]
    | succ k =>
      have := ih k p (by simpa using h)
      rw [show (k + 1) * 2 = k * 2 + 2 from by omega]
      simpa [cellsP] using this
theorem cellsP_snoc (l : List (Int × Int)) (k : Nat) (p : Int × Int) (h : l[k]? = some p) : cellsP (l.take (k + 1)) = cellsP (l.take k) ++ [.int .i64 p.1, .int .i64 p.2] := by
  rw [List.take_add_one, h]
  simp [cellsP]
/-- the slice v holds the points l -/
def SlP (w : World) (v : Value) (l : List (Int × Int)) : Prop :=
  ∃ A c, v = .slice A l.length c ∧ ∀ k p, l[k]? = some p → ∃ b off, A = some ⟨b, off, none⟩ ∧ w.cell? ⟨b, off + k * 2, none⟩ = some (.int .i64 p.1) ∧ w.cell? ⟨b, off + k * 2 + 1, none⟩ = some (.int .i64 p.2)
theorem SlP.below {w w' : World} {v : Value} {l : List (Int × Int)} (h : SlP w v l) (hb : Below w.heap.size w w') : SlP w' v l := by
  obtain ⟨A, c, hv, hk⟩ := h
  refine ⟨A, c, hv, fun k p hp => ?_⟩
  obtain ⟨b, off, hA, h1, h2⟩ := hk k p hp
  exact ⟨b, off, hA, (hb.cell (World.block_lt_of_cell? w _ h1)).trans h1, (hb.cell (World.block_lt_of_cell? w _ h2)).trans h2⟩
theorem SlP.own {w : World} {base : Nat} {T : TypeId} {v : Value} {l : List (Int × Int)} (h : w.ownsRow base T 2 v l.length (cellsP l)) : SlP w v l := by
  rcases h.2 with ⟨rfl, h0⟩ | ⟨g, cap, cur, rfl, _⟩
  · have : l = [] := List.eq_nil_of_length_eq_zero h0
    subst this
    exact ⟨none, 0, rfl, fun k p hp => by simp at hp⟩
  · refine ⟨_, _, rfl, fun k p hp => ?_⟩
    obtain ⟨h1, h2⟩ := cellsP_get l k p hp
    have a1 := h.cells (g := g) rfl _ _ h1
    have a2 := h.cells (g := g) rfl _ _ h2
    have e : ∀ j, (⟨g, 0, none⟩ : Addr).add j = ⟨g, 0 + j, none⟩ := fun j => by unfold Addr.add; split <;> simp_all
    rw [e] at a1 a2
    exact ⟨g, 0, rfl, a1, a2⟩
theorem two_cells (w : World) (o : Obj) (T : TypeId) (x y : Value) : ∀ (j : Nat) (u : Value), [x, y][j]? = some u → ((w.alloc o).alloc (.cells #[x, y] T)).cell? ((⟨w.heap.size + 1, 0, none⟩ : Addr).add j) = some u := by
  intro j u h
  have e : (⟨w.heap.size + 1, 0, none⟩ : Addr).add j = ⟨w.heap.size + 1, 0 + j, none⟩ := by unfold Addr.add; split <;> simp_all
  rw [e]
  have hh : ((w.alloc o).alloc (.cells #[x, y] T)).heap[w.heap.size + 1]? = some (.cells #[x, y] T (0, 0)) := by
    have := heap_alloc_new (w.alloc o) (.cells #[x, y] T)
    simpa using this
  unfold World.cell?
  simp only [hh]
  match j, h with
  | 0, h => simpa using h
  | 1, h => simpa using h
theorem row_below {B : Nat} {w u w' : World} {row : Option Nat} (h : Below B w u) (hg : u.grownBy w' row) (hr : ∀ g, row = some g → B ≤ g) (hs : B ≤ u.heap.size) : Below B w w' := h.grown hg hs hr
end PF
namespace Go.Proofs.YtlpibeloedfbdaaGreat
open Go.RowKit PF JR

theorem infoVP : (Tryz.prog.info? 65).map (fun i => (i.zero, i.size, i.bytes)) = some (some (.agg #[.int .i64 0, .int .i64 0]), 2, 16) := by kernel_rfl

set_option maxHeartbeats 1000000 in
theorem varyOf_c (l : List (Int × Int)) (hl : l.length ≤ 2147483647) (v : Value) (w : World) (hv : SlP w v l) :
    Calls Tryz.prog 11 #[v] w fun e w' => ∃ v', e = .returned v' ∧ SlP w' v' l ∧ Below w.heap.size w w' := by
  obtain ⟨A, c, rfl, hk⟩ := hv
  obtain ⟨i0, hi, hz0, hz1, hz2⟩ := info_parts infoVP
  go_enter Tryz.func11, Tryz.ntmps11
  go_wp2
  go_loopw [3, 8] (fun v i wr => ∃ k : Nat, k ≤ l.length ∧ i = .int .i64 k ∧ wr.ownsRow w.heap.size 65 2 v k (cellsP (l.take k)) ∧ Below w.heap.size w wr) (fun _ i _ => l.length - (intOf i).toNat)
  case atStart => exact ⟨0, Nat.zero_le _, rfl, World.ownsRow_nil _ _ _ _, Below.refl _ _⟩
  case round =>
    obtain ⟨k, hkl, rfl, hown, hnx⟩ := hrel
    rcases Nat.lt_or_ge k l.length with hlt | hge
    · obtain ⟨p, hp⟩ : ∃ p, l[k]? = some p := ⟨l[k], by simp [hlt]⟩
      obtain ⟨b, off, rfl, h1, h2⟩ := hk k p hp
      have g1 := (hnx.cell (World.block_lt_of_cell? w _ h1)).trans h1
      have g2 := (hnx.cell (World.block_lt_of_cell? w _ h2)).trans h2
      clear h1 h2 hk
      go_wp2_with (first | (at_builtin; refine wpList_append_own _ rfl _ _ 36 rfl w.heap.size 65 i0 (.agg #[.int .i64 0, .int .i64 0]) 2 16 Tryz.underlying36 hi hz0 hz1 hz2 rfl (by decide) _ _ _ rfl ((hown.alloc _).alloc _) ⟨wr.heap.size + 1, 0, none⟩ 1 1 [.int .i64 p.1, .int .i64 p.2] rfl rfl ?c1 ?c2 ?c3 ?c4 ?c5 ?_))
      case c1 => exact two_cells _ _ _ _ _
      case c2 => intro u hu; simp at hu; rcases hu with rfl | rfl <;> rfl
      case c3 => unfold maxLen; omega
      case c4 => omega
      case c5 => have := hnx.size; simp; omega
      intro v' w1 hown' hgrow _
      have hB := row_below (((hnx.alloc hnx.size _).alloc (by have := hnx.size; simp; omega) _)) hgrow (fun g hg => (hown.lt g hg).1) (by have := hnx.size; simp; omega)
      rw [← cellsP_snoc l k p hp] at hown'
      clear hgrow hown hnx
      go_wp2
      go_roundw
      case rel => exact ⟨k + 1, by omega, by go_num, hown', hB⟩
      case measure => simp [intOf]; omega
    · have hkk : k = l.length := by omega
      subst hkk
      rw [List.take_length] at hown
      clear hk
      go_wp2
      go_ret
      exact ⟨_, rfl, SlP.own hown, hnx⟩
end Go.Proofs.YtlpibeloedfbdaaGreat
