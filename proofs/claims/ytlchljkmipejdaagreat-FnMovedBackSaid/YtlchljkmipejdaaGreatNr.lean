import Derived.Test.YtlchljkmipejdaaGreatPp
import Derived.Test.YtlchljkmipejdaaGreatRg
set_option linter.unusedSimpArgs false
set_option linter.unusedVariables false
/-! rings, lines: made of points that are right; slices of such. -/
namespace PF
open Go Go.RowKit JR
def okL (closed : Bool) (l : List (Int × Int)) : Prop := 2 ≤ l.length ∧ (closed = true → 3 ≤ l.length) ∧ l.length ≤ 1000 ∧ ∀ p ∈ l, Bnd p
def box (l : List (Int × Int)) : Int × Int × Int × Int := bxs l ((at' l 0).1, (at' l 0).2, (at' l 0).1, (at' l 0).2)
theorem SlQ.keep' {l h : Nat} {w w' : World} {v : Value} {L : List (Int × Int)} (hk : ∀ b, l ≤ b → b < h → b < w.heap.size → w'.heap[b]? = w.heap[b]?) (H : SlQ l h w v L) : SlQ l h w' v L := by
  obtain ⟨A, c, hv, hh⟩ := H
  refine ⟨A, c, hv, fun k p hp => ?_⟩
  obtain ⟨b, h1, h4, h5, h2, h3⟩ := hh k p hp
  have hb := World.block_lt_of_cell? w _ h2
  exact ⟨b, h1, h4, h5, (World.cell?_of_block (hk b h4 h5 hb)).trans h2, (World.cell?_of_block (hk b h4 h5 hb)).trans h3⟩
theorem SlQ.below {l h : Nat} {w w' : World} {v : Value} {L : List (Int × Int)} (H : SlQ l h w v L) (hb : Below w.heap.size w w') : SlQ l h w' v L :=
  H.keep' fun b _ _ h3 => hb.block b h3
theorem SlQ.wide {l h l' h' : Nat} {w : World} {v : Value} {L : List (Int × Int)} (H : SlQ l h w v L) (h1 : l' ≤ l) (h2 : h ≤ h') : SlQ l' h' w v L := by
  obtain ⟨A, c, hv, hh⟩ := H
  refine ⟨A, c, hv, fun k p hp => ?_⟩
  obtain ⟨b, h1, h4, h5, h2, h3⟩ := hh k p hp
  exact ⟨b, h1, by omega, by omega, h2, h3⟩
theorem SlQ.len {l h : Nat} {w : World} {v : Value} {L : List (Int × Int)} (H : SlQ l h w v L) : ∃ A c, v = .slice A L.length c := by
  obtain ⟨A, c, hv, _⟩ := H
  exact ⟨A, c, hv⟩
end PF
namespace Go.Proofs.YtlchljkmipejdaaGreat
open Go.RowKit PF JR
theorem SerP.keep {closed : Bool} {l : List (Int × Int)} {r0 r1 r2 r3 : Nat} {T : TypeId} {lo hi b : Nat} {w w' : World} (H : SerP closed l r0 r1 r2 r3 T lo hi b w)
    (hk : ∀ k, lo ≤ k → k < hi → k < w.heap.size → w'.heap[k]? = w.heap[k]?) : SerP closed l r0 r1 r2 r3 T lo hi b w' := by
  obtain ⟨cv, cw, v', h1, h2, h3, h4⟩ := H
  exact ⟨cv, cw, v', h1, h2, (hk b h1 h2 (lt_of_some h3)).trans h3, h4.keep' hk⟩
/-- the value is a ring of these points; its blocks are from number lo up to hi -/
def RngV (lo hi : Nat) (w : World) (v : Value) (l : List (Int × Int)) : Prop :=
  ∃ b : Nat, v = .iface 107 (.pointer (some ⟨b, 0, none⟩)) ∧ SerP true l (fb (box l).1) (fb (box l).2.1) (fb (box l).2.2.1) (fb (box l).2.2.2) 104 lo hi b w
theorem RngV.keep {lo hi : Nat} {w w' : World} {v : Value} {l : List (Int × Int)} (H : RngV lo hi w v l)
    (hk : ∀ k, lo ≤ k → k < hi → k < w.heap.size → w'.heap[k]? = w.heap[k]?) : RngV lo hi w' v l := by
  obtain ⟨b, h1, h2⟩ := H
  exact ⟨b, h1, h2.keep hk⟩
theorem RngV.wide {lo hi lo' hi' : Nat} {w : World} {v : Value} {l : List (Int × Int)} (H : RngV lo hi w v l) (h1 : lo' ≤ lo) (h2 : hi ≤ hi') : RngV lo' hi' w v l := by
  obtain ⟨b, e, cv, cw, v', g1, g2, g3, g4⟩ := H
  exact ⟨b, e, cv, cw, v', by omega, by omega, g3, g4.wide h1 h2⟩
theorem RngV.below {lo hi : Nat} {w w' : World} {v : Value} {l : List (Int × Int)} (H : RngV lo hi w v l) (hb : Below w.heap.size w w') : RngV lo hi w' v l :=
  H.keep fun k _ _ h3 => hb.block k h3
theorem mk_c (closed : Bool) (l : List (Int × Int)) (h : okL closed l) (ob : Nat) (v : Value) (lo hb0 : Nat) (w : World) (hhb : hb0 ≤ w.heap.size)
    (hob : w.heap[ob]? = some (.cells #[.int .u8 0, .int .i64 0] 101 (0, 0))) (hv : SlQ lo hb0 w v l) :
    Calls Tryz.prog 53 #[v, .bool true, .bool closed, .pointer (some ⟨ob, 0, none⟩)] w (MsP closed l (fb (box l).1) (fb (box l).2.1) (fb (box l).2.2.1) (fb (box l).2.2.2) w) := by
  obtain ⟨h2, h3, h1, hb⟩ := h
  refine makeSeries_c closed l (by omega) _ _ _ _ ?_ ob v lo hb0 w hhb hob hv (by omega)
  rintro v' u ⟨a, b, hs⟩
  refine (processPoints_c closed l (at' l 0) (at_get (by omega)) h1 h2 h3 hb v' a b u hs).mono ?_
  rintro e w' ⟨rfl, hB⟩
  exact ⟨_, _, rfl, hB⟩
/-- a new ring -/
theorem ring_c (l : List (Int × Int)) (h : okL true l) (ob : Nat) (v : Value) (lo hb0 : Nat) (w : World) (hhb : hb0 ≤ w.heap.size)
    (hob : w.heap[ob]? = some (.cells #[.int .u8 0, .int .i64 0] 101 (0, 0))) (hv : SlQ lo hb0 w v l) :
    Calls Tryz.prog 57 #[v, .pointer (some ⟨ob, 0, none⟩)] w fun e w' => ∃ v', e = .returned v' ∧ RngV w.heap.size w'.heap.size w' v' l ∧ Below w.heap.size w w' := by
  refine (newRing_c l _ _ _ _ v _ w (mk_c true l h ob v lo hb0 w hhb hob hv)).mono ?_
  rintro e w' ⟨b, rfl, hs, hB⟩
  exact ⟨_, rfl, ⟨b, rfl, hs⟩, hB⟩
/-- a new line -/
theorem line_c (l : List (Int × Int)) (h : okL false l) (ob : Nat) (v : Value) (lo hb0 : Nat) (w : World) (hhb : hb0 ≤ w.heap.size)
    (hob : w.heap[ob]? = some (.cells #[.int .u8 0, .int .i64 0] 101 (0, 0))) (hv : SlQ lo hb0 w v l) :
    Calls Tryz.prog 48 #[v, .pointer (some ⟨ob, 0, none⟩)] w (LnP l (fb (box l).1) (fb (box l).2.1) (fb (box l).2.2.1) (fb (box l).2.2.2) w) :=
  newLine_c l _ _ _ _ v _ w fun u hu => mk_c false l h ob v lo hb0 u (Nat.le_trans hhb hu.size) ((hu.block ob (lt_of_some hob)).trans hob) (hv.below hu)
end Go.Proofs.YtlchljkmipejdaaGreat
