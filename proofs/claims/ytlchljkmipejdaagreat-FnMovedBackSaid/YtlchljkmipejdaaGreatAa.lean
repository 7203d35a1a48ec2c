import Derived.Test.YtlchljkmipejdaaGreatVs
import Derived.Test.YtlchljkmipejdaaGreatBx
set_option linter.unusedSimpArgs false
set_option linter.unusedVariables false
/-! ShapeAsk of every kind of shape; what a turned shape's rectangle is. -/
namespace PF
open Go Go.RowKit JR
def rkt (K : Int) (l : List (Int × Int)) : Int × Int × Int × Int :=
  if K = 0 then ((at' l 0).1, (at' l 0).2, (at' l 0).1, (at' l 0).2) else if K = 1 then ((at' l 0).1, (at' l 0).2, (at' l 1).1, (at' l 1).2) else box l
def ShpOk (K : Int) (l : List (Int × Int)) (H : List (List (Int × Int))) : Prop :=
  ((K = 0 ∧ l.length = 1) ∨ (K = 1 ∧ l.length = 2) ∨ (K = 2 ∧ okL false l) ∨ (K = 3 ∧ okL true l ∧ (∀ x ∈ H, okL true x) ∧ H.length ≤ 1000)) ∧ ∀ p ∈ l, Bnd p
theorem bxs_le2 (m : Nat) (l : List (Int × Int)) : ∀ b : Int × Int × Int × Int, (∀ p ∈ l, p.1.natAbs ≤ m ∧ p.2.natAbs ≤ m) → (b.1.natAbs ≤ m ∧ b.2.1.natAbs ≤ m ∧ b.2.2.1.natAbs ≤ m ∧ b.2.2.2.natAbs ≤ m) →
    (bxs l b).1.natAbs ≤ m ∧ (bxs l b).2.1.natAbs ≤ m ∧ (bxs l b).2.2.1.natAbs ≤ m ∧ (bxs l b).2.2.2.natAbs ≤ m := by
  induction l with
  | nil => intro b _ h; exact h
  | cons p l ih =>
    intro b h h1
    simp only [bxs, List.foldl_cons]
    have hp := h p (by simp)
    exact ih _ (fun q hq => h q (by simp [hq])) (by simp only; omega)
theorem at_m {m : Nat} {l : List (Int × Int)} (h : ∀ p ∈ l, p.1.natAbs ≤ m ∧ p.2.natAbs ≤ m) (k : Nat) : (at' l k).1.natAbs ≤ m ∧ (at' l k).2.natAbs ≤ m := by
  rcases Nat.lt_or_ge k l.length with h1 | h1
  · exact h _ (List.mem_of_getElem? (at_get h1))
  · unfold at'; simp [List.getD, List.getElem?_eq_none h1]
theorem rkt_m {m : Nat} {K : Int} {l : List (Int × Int)} (h : ∀ p ∈ l, p.1.natAbs ≤ m ∧ p.2.natAbs ≤ m) : (rkt K l).1.natAbs ≤ m ∧ (rkt K l).2.1.natAbs ≤ m ∧ (rkt K l).2.2.1.natAbs ≤ m ∧ (rkt K l).2.2.2.natAbs ≤ m := by
  have h0 := at_m h 0
  have h1 := at_m h 1
  unfold rkt
  split
  · exact ⟨h0.1, h0.2, h0.1, h0.2⟩
  · split
    · exact ⟨h0.1, h0.2, h1.1, h1.2⟩
    · exact bxs_le2 m l _ h ⟨h0.1, h0.2, h0.1, h0.2⟩
theorem okP_m {l : List (Int × Int)} (h : l.all okP = true) : ∀ p ∈ l, p.1.natAbs ≤ 1024 ∧ p.2.natAbs ≤ 1024 := by
  intro p hp
  have := List.all_eq_true.1 h p hp
  simp [okP] at this
  omega
theorem tpt_m {K S DX DY : Int} (hK : 0 ≤ K ∧ K ≤ 7) (hS : 1 ≤ S ∧ S ≤ 8) (hD : -65536 ≤ DX ∧ DX ≤ 65536 ∧ -65536 ≤ DY ∧ DY ≤ 65536) (p : Int × Int) (h : p.1.natAbs ≤ 1024 ∧ p.2.natAbs ≤ 1024) : Bnd (tpt K S DX DY p) := by
  obtain ⟨x, y⟩ := p
  simp only at h
  have h1 : (x * S).natAbs ≤ 1024 * 8 := mul_bnd h.1 (by omega)
  have h2 : (y * S).natAbs ≤ 1024 * 8 := mul_bnd h.2 (by omega)
  obtain ⟨k0, k7⟩ := hK
  have hk : K = 0 ∨ K = 1 ∨ K = 2 ∨ K = 3 ∨ K = 4 ∨ K = 5 ∨ K = 6 ∨ K = 7 := by omega
  unfold Bnd
  rcases hk with rfl | rfl | rfl | rfl | rfl | rfl | rfl | rfl <;> simp only [tpt0, tpt1, tpt2, tpt3, tpt4, tpt5, tpt6, tpt7] <;> omega
end PF
namespace Go.Proofs.YtlchljkmipejdaaGreat
open Go.RowKit PF JR
theorem bndP {p : Int × Int} (h : Bnd p) : -1000000 ≤ p.1 ∧ p.1 ≤ 1000000 ∧ -1000000 ≤ p.2 ∧ p.2 ≤ 1000000 := by
  obtain ⟨h1, h2⟩ := h
  omega
theorem askAll_c (K : Int) (l : List (Int × Int)) (H : List (List (Int × Int))) (h : ShpOk K l H) (v vh : Value) (w : World) (hv : SlP w v l) (hh : SlH w vh H) :
    Calls Tryz.prog 9 #[.agg #[.int .i64 K, v, vh], .int .i64 0, .int .i64 0] w fun e w' => (∃ val : Value, e = .returned (.tuple #[.agg #[.int .i64 (rkt K l).1, .int .i64 (rkt K l).2.1, .int .i64 (rkt K l).2.2.1, .int .i64 (rkt K l).2.2.2], .bool false, val])) ∧ Below w.heap.size w w' := by
  obtain ⟨hk, hb⟩ := h
  rcases hk with ⟨rfl, hl⟩ | ⟨rfl, hl⟩ | ⟨rfl, hl⟩ | ⟨rfl, hl, hH, hm⟩
  · obtain ⟨p, rfl⟩ := List.length_eq_one_iff.1 hl
    exact ask0_c p.1 p.2 (bndP (hb p (by simp))) v vh w hv
  · match l, hl, hb, hv with
    | [p, q], _, hb, hv =>
      have hp := bndP (hb p (by simp))
      have hq := bndP (hb q (by simp))
      exact ask1_c p.1 p.2 q.1 q.2 ⟨hp.1, hp.2.1, hp.2.2.1, hp.2.2.2, hq.1, hq.2.1, hq.2.2.1, hq.2.2.2⟩ v vh w hv
  · exact ask2_c l hl v vh w hv
  · exact ask3_c l H hl hH hm v vh w hv hh
theorem shpOk_of {K : Int} {l : List (Int × Int)} {H : List (List (Int × Int))} (h : VaryS K l H) : ShpOk K l H := by
  obtain ⟨h1, h2, h3, h4, h5⟩ := h
  have hb : ∀ p ∈ l, Bnd p := fun p hp => by have := okP_m h1 p hp; unfold Bnd; omega
  refine ⟨?_, hb⟩
  rcases h5 with ⟨hk, hl⟩ | ⟨hk, a, b, c, d, hl, -⟩ | ⟨hk, hl, hl'⟩ | ⟨hk, hl, hl'⟩
  · exact .inl ⟨hk, hl⟩
  · exact .inr (.inl ⟨hk, by rw [hl]; rfl⟩)
  · exact .inr (.inr (.inl ⟨hk, hl, fun h => (nomatch h), by omega, hb⟩))
  · refine .inr (.inr (.inr ⟨hk, ⟨by omega, fun _ => hl, by omega, hb⟩, fun x hx => ?_, by omega⟩))
    obtain ⟨g1, g2, g3⟩ := h4 x hx
    exact ⟨by omega, fun _ => g1, by omega, fun p hp => by have := okP_m g3 p hp; unfold Bnd; omega⟩
theorem turned_ok {KK S DX DY K : Int} {l : List (Int × Int)} {H : List (List (Int × Int))} (b0 : 0 ≤ KK ∧ KK ≤ 7) (b2 : 1 ≤ S ∧ S ≤ 8) (b3 : -65536 ≤ DX ∧ DX ≤ 65536 ∧ -65536 ≤ DY ∧ DY ≤ 65536) (h : VaryS K l H) :
    ShpOk K (vsl KK S DX DY K l) (H.map (fun x => x.map (tpt KK S DX DY))) ∧ rkt K (vsl KK S DX DY K l) = mbx KK S DX DY (rkt K l) := by
  have hl0 : 0 < l.length := by
    rcases h.2.2.2.2 with ⟨-, h⟩ | ⟨-, a, b, c, d, h, -⟩ | ⟨-, h, -⟩ | ⟨-, h, -⟩
    · omega
    · rw [h]; simp
    · omega
    · omega
  have hm := okP_m h.1
  have hbt : ∀ p ∈ l.map (tpt KK S DX DY), Bnd p := by
    intro p hp
    simp only [List.mem_map] at hp
    obtain ⟨q, hq, rfl⟩ := hp
    exact tpt_m b0 b2 b3 q (hm q hq)
  have hHt : ∀ x ∈ H.map (fun x => x.map (tpt KK S DX DY)), okL true x := by
    intro x hx
    simp only [List.mem_map] at hx
    obtain ⟨y, hy, rfl⟩ := hx
    obtain ⟨g1, g2, g3⟩ := h.2.2.2.1 y hy
    refine ⟨by simp; omega, fun _ => by simp; omega, by simp; omega, ?_⟩
    intro p hp
    simp only [List.mem_map] at hp
    obtain ⟨q, hq, rfl⟩ := hp
    exact tpt_m b0 b2 b3 q (okP_m g3 q hq)
  have hH3 := h.2.1
  rcases h.2.2.2.2 with ⟨rfl, hl⟩ | ⟨rfl, X0, Y0, X1, Y1, rfl, -, -⟩ | ⟨rfl, hl, hl'⟩ | ⟨rfl, hl, hl'⟩
  · obtain ⟨p, rfl⟩ := List.length_eq_one_iff.1 hl
    exact ⟨⟨.inl ⟨rfl, rfl⟩, hbt⟩, (mbx_one KK S DX DY p).symm⟩
  · refine ⟨⟨.inr (.inl ⟨rfl, rfl⟩), ?_⟩, rfl⟩
    have h0 := hbt (tpt KK S DX DY (X0, Y0)) (by simp)
    have h1 := hbt (tpt KK S DX DY (X1, Y1)) (by simp)
    intro p hp
    have e : vsl KK S DX DY 1 [(X0, Y0), (X1, Y1)] = [(rx0 KK S DX DY X0 Y0 X1 Y1, ry0 KK S DX DY X0 Y0 X1 Y1), (rx1 KK S DX DY X0 Y0 X1 Y1, ry1 KK S DX DY X0 Y0 X1 Y1)] := rfl
    rw [e] at hp
    unfold rx0 ry0 rx1 ry1 at hp
    unfold Bnd at h0 h1 ⊢
    simp at hp
    rcases hp with rfl | rfl <;> (simp only; omega)
  · exact ⟨⟨.inr (.inr (.inl ⟨rfl, by simp [vsl]; omega, fun h => (nomatch h), by simp [vsl]; omega, hbt⟩)), hbt⟩, box_turn b0 (by omega) l hl0⟩
  · exact ⟨⟨.inr (.inr (.inr ⟨rfl, ⟨by simp [vsl]; omega, fun _ => by simp [vsl]; omega, by simp [vsl]; omega, hbt⟩, hHt, by simp; omega⟩)), hbt⟩, box_turn b0 (by omega) l hl0⟩
end Go.Proofs.YtlchljkmipejdaaGreat
