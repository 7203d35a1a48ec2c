import Derived.Test.YtdlcckkphjpeoaaGreatSl
import Derived.LoopN
set_option linter.unusedSimpArgs false
set_option linter.unusedVariables false
namespace PF
open Go Go.RowKit
def rotN : Nat → Int × Int → Int × Int
  | 0, p => p
  | n + 1, p => rotN n (-p.2, p.1)
/-- where a turn takes a point -/
def tpt (K S DX DY : Int) (p : Int × Int) : Int × Int :=
  let q := rotN (K % 4).toNat (if 4 ≤ K then (-p.1, p.2) else p)
  (q.1 * S + DX, q.2 * S + DY)
theorem mulS {a s : Int} (ha : -65536 ≤ a ∧ a ≤ 65536) (hs : 1 ≤ s ∧ s ≤ 8) : -524288 ≤ a * s ∧ a * s ≤ 524288 := by
  have h1 : (a * s).natAbs ≤ 65536 * 8 := by
    rw [Int.natAbs_mul]; exact Nat.mul_le_mul (by omega) (by omega)
  omega
end PF
namespace Go.Proofs.YtdlcckkphjpeoaaGreat
open Go.RowKit PF JR

set_option maxHeartbeats 800000 in
theorem tp0_c (x y S DX DY : Int) (b1 : -65536 ≤ x ∧ x ≤ 65536 ∧ -65536 ≤ y ∧ y ≤ 65536) (b2 : 1 ≤ S ∧ S ≤ 8) (b3 : -65536 ≤ DX ∧ DX ≤ 65536 ∧ -65536 ≤ DY ∧ DY ≤ 65536) (w : World) :
    Calls Tryz.prog 57 #[.agg #[.int .u8 0, .int .i64 S, .int .i64 DX, .int .i64 DY], .agg #[.int .i64 x, .int .i64 y]] w fun e w' => e = .returned (.agg #[.int .i64 ((x) * S + DX), .int .i64 ((y) * S + DY)]) ∧ Below w.heap.size w w' := by
  have m1 := mulS (a := x) (s := S) (by omega) b2
  have m2 := mulS (a := y) (s := S) (by omega) b2
  have m3 := Int.neg_mul x S
  have m4 := Int.neg_mul y S
  go_enter Tryz.func57, Tryz.ntmps57
  go_wp2
  refine wp_loop_rounds 1 ?_
  rw [rounds_succ]; go_wp2
  exact bodyPost_ret (v := .agg #[.int .i64 ((x) * S + DX), .int .i64 ((y) * S + DY)]) (by simp [results, Tryz.results57, go_sem, Int.neg_mul]) rfl ⟨rfl, (((Below.refl _ _).alloc (Nat.le_refl _) _).alloc (by simp) _).alloc (by simp; omega) _⟩

set_option maxHeartbeats 800000 in
theorem tp1_c (x y S DX DY : Int) (b1 : -65536 ≤ x ∧ x ≤ 65536 ∧ -65536 ≤ y ∧ y ≤ 65536) (b2 : 1 ≤ S ∧ S ≤ 8) (b3 : -65536 ≤ DX ∧ DX ≤ 65536 ∧ -65536 ≤ DY ∧ DY ≤ 65536) (w : World) :
    Calls Tryz.prog 57 #[.agg #[.int .u8 1, .int .i64 S, .int .i64 DX, .int .i64 DY], .agg #[.int .i64 x, .int .i64 y]] w fun e w' => e = .returned (.agg #[.int .i64 ((-y) * S + DX), .int .i64 ((x) * S + DY)]) ∧ Below w.heap.size w w' := by
  have m1 := mulS (a := x) (s := S) (by omega) b2
  have m2 := mulS (a := y) (s := S) (by omega) b2
  have m3 := Int.neg_mul x S
  have m4 := Int.neg_mul y S
  go_enter Tryz.func57, Tryz.ntmps57
  go_wp2
  refine wp_loop_rounds 2 ?_
  rw [rounds_succ]; go_wp2
  rw [rounds_succ]; go_wp2
  exact bodyPost_ret (v := .agg #[.int .i64 ((-y) * S + DX), .int .i64 ((x) * S + DY)]) (by simp [results, Tryz.results57, go_sem, Int.neg_mul]) rfl ⟨rfl, (((Below.refl _ _).alloc (Nat.le_refl _) _).alloc (by simp) _).alloc (by simp; omega) _⟩

set_option maxHeartbeats 800000 in
theorem tp2_c (x y S DX DY : Int) (b1 : -65536 ≤ x ∧ x ≤ 65536 ∧ -65536 ≤ y ∧ y ≤ 65536) (b2 : 1 ≤ S ∧ S ≤ 8) (b3 : -65536 ≤ DX ∧ DX ≤ 65536 ∧ -65536 ≤ DY ∧ DY ≤ 65536) (w : World) :
    Calls Tryz.prog 57 #[.agg #[.int .u8 2, .int .i64 S, .int .i64 DX, .int .i64 DY], .agg #[.int .i64 x, .int .i64 y]] w fun e w' => e = .returned (.agg #[.int .i64 ((-x) * S + DX), .int .i64 ((-y) * S + DY)]) ∧ Below w.heap.size w w' := by
  have m1 := mulS (a := x) (s := S) (by omega) b2
  have m2 := mulS (a := y) (s := S) (by omega) b2
  have m3 := Int.neg_mul x S
  have m4 := Int.neg_mul y S
  go_enter Tryz.func57, Tryz.ntmps57
  go_wp2
  refine wp_loop_rounds 3 ?_
  rw [rounds_succ]; go_wp2
  rw [rounds_succ]; go_wp2
  rw [rounds_succ]; go_wp2
  exact bodyPost_ret (v := .agg #[.int .i64 ((-x) * S + DX), .int .i64 ((-y) * S + DY)]) (by simp [results, Tryz.results57, go_sem, Int.neg_mul]) rfl ⟨rfl, (((Below.refl _ _).alloc (Nat.le_refl _) _).alloc (by simp) _).alloc (by simp; omega) _⟩

set_option maxHeartbeats 800000 in
theorem tp3_c (x y S DX DY : Int) (b1 : -65536 ≤ x ∧ x ≤ 65536 ∧ -65536 ≤ y ∧ y ≤ 65536) (b2 : 1 ≤ S ∧ S ≤ 8) (b3 : -65536 ≤ DX ∧ DX ≤ 65536 ∧ -65536 ≤ DY ∧ DY ≤ 65536) (w : World) :
    Calls Tryz.prog 57 #[.agg #[.int .u8 3, .int .i64 S, .int .i64 DX, .int .i64 DY], .agg #[.int .i64 x, .int .i64 y]] w fun e w' => e = .returned (.agg #[.int .i64 ((y) * S + DX), .int .i64 ((-x) * S + DY)]) ∧ Below w.heap.size w w' := by
  have m1 := mulS (a := x) (s := S) (by omega) b2
  have m2 := mulS (a := y) (s := S) (by omega) b2
  have m3 := Int.neg_mul x S
  have m4 := Int.neg_mul y S
  go_enter Tryz.func57, Tryz.ntmps57
  go_wp2
  refine wp_loop_rounds 4 ?_
  rw [rounds_succ]; go_wp2
  rw [rounds_succ]; go_wp2
  rw [rounds_succ]; go_wp2
  rw [rounds_succ]; go_wp2
  exact bodyPost_ret (v := .agg #[.int .i64 ((y) * S + DX), .int .i64 ((-x) * S + DY)]) (by simp [results, Tryz.results57, go_sem, Int.neg_mul]) rfl ⟨rfl, (((Below.refl _ _).alloc (Nat.le_refl _) _).alloc (by simp) _).alloc (by simp; omega) _⟩

set_option maxHeartbeats 800000 in
theorem tp4_c (x y S DX DY : Int) (b1 : -65536 ≤ x ∧ x ≤ 65536 ∧ -65536 ≤ y ∧ y ≤ 65536) (b2 : 1 ≤ S ∧ S ≤ 8) (b3 : -65536 ≤ DX ∧ DX ≤ 65536 ∧ -65536 ≤ DY ∧ DY ≤ 65536) (w : World) :
    Calls Tryz.prog 57 #[.agg #[.int .u8 4, .int .i64 S, .int .i64 DX, .int .i64 DY], .agg #[.int .i64 x, .int .i64 y]] w fun e w' => e = .returned (.agg #[.int .i64 ((-x) * S + DX), .int .i64 ((y) * S + DY)]) ∧ Below w.heap.size w w' := by
  have m1 := mulS (a := x) (s := S) (by omega) b2
  have m2 := mulS (a := y) (s := S) (by omega) b2
  have m3 := Int.neg_mul x S
  have m4 := Int.neg_mul y S
  go_enter Tryz.func57, Tryz.ntmps57
  go_wp2
  refine wp_loop_rounds 1 ?_
  rw [rounds_succ]; go_wp2
  exact bodyPost_ret (v := .agg #[.int .i64 ((-x) * S + DX), .int .i64 ((y) * S + DY)]) (by simp [results, Tryz.results57, go_sem, Int.neg_mul]) rfl ⟨rfl, (((Below.refl _ _).alloc (Nat.le_refl _) _).alloc (by simp) _).alloc (by simp; omega) _⟩

set_option maxHeartbeats 800000 in
theorem tp5_c (x y S DX DY : Int) (b1 : -65536 ≤ x ∧ x ≤ 65536 ∧ -65536 ≤ y ∧ y ≤ 65536) (b2 : 1 ≤ S ∧ S ≤ 8) (b3 : -65536 ≤ DX ∧ DX ≤ 65536 ∧ -65536 ≤ DY ∧ DY ≤ 65536) (w : World) :
    Calls Tryz.prog 57 #[.agg #[.int .u8 5, .int .i64 S, .int .i64 DX, .int .i64 DY], .agg #[.int .i64 x, .int .i64 y]] w fun e w' => e = .returned (.agg #[.int .i64 ((-y) * S + DX), .int .i64 ((-x) * S + DY)]) ∧ Below w.heap.size w w' := by
  have m1 := mulS (a := x) (s := S) (by omega) b2
  have m2 := mulS (a := y) (s := S) (by omega) b2
  have m3 := Int.neg_mul x S
  have m4 := Int.neg_mul y S
  go_enter Tryz.func57, Tryz.ntmps57
  go_wp2
  refine wp_loop_rounds 2 ?_
  rw [rounds_succ]; go_wp2
  rw [rounds_succ]; go_wp2
  exact bodyPost_ret (v := .agg #[.int .i64 ((-y) * S + DX), .int .i64 ((-x) * S + DY)]) (by simp [results, Tryz.results57, go_sem, Int.neg_mul]) rfl ⟨rfl, (((Below.refl _ _).alloc (Nat.le_refl _) _).alloc (by simp) _).alloc (by simp; omega) _⟩

set_option maxHeartbeats 800000 in
theorem tp6_c (x y S DX DY : Int) (b1 : -65536 ≤ x ∧ x ≤ 65536 ∧ -65536 ≤ y ∧ y ≤ 65536) (b2 : 1 ≤ S ∧ S ≤ 8) (b3 : -65536 ≤ DX ∧ DX ≤ 65536 ∧ -65536 ≤ DY ∧ DY ≤ 65536) (w : World) :
    Calls Tryz.prog 57 #[.agg #[.int .u8 6, .int .i64 S, .int .i64 DX, .int .i64 DY], .agg #[.int .i64 x, .int .i64 y]] w fun e w' => e = .returned (.agg #[.int .i64 ((x) * S + DX), .int .i64 ((-y) * S + DY)]) ∧ Below w.heap.size w w' := by
  have m1 := mulS (a := x) (s := S) (by omega) b2
  have m2 := mulS (a := y) (s := S) (by omega) b2
  have m3 := Int.neg_mul x S
  have m4 := Int.neg_mul y S
  go_enter Tryz.func57, Tryz.ntmps57
  go_wp2
  refine wp_loop_rounds 3 ?_
  rw [rounds_succ]; go_wp2
  rw [rounds_succ]; go_wp2
  rw [rounds_succ]; go_wp2
  exact bodyPost_ret (v := .agg #[.int .i64 ((x) * S + DX), .int .i64 ((-y) * S + DY)]) (by simp [results, Tryz.results57, go_sem, Int.neg_mul]) rfl ⟨rfl, (((Below.refl _ _).alloc (Nat.le_refl _) _).alloc (by simp) _).alloc (by simp; omega) _⟩

set_option maxHeartbeats 800000 in
theorem tp7_c (x y S DX DY : Int) (b1 : -65536 ≤ x ∧ x ≤ 65536 ∧ -65536 ≤ y ∧ y ≤ 65536) (b2 : 1 ≤ S ∧ S ≤ 8) (b3 : -65536 ≤ DX ∧ DX ≤ 65536 ∧ -65536 ≤ DY ∧ DY ≤ 65536) (w : World) :
    Calls Tryz.prog 57 #[.agg #[.int .u8 7, .int .i64 S, .int .i64 DX, .int .i64 DY], .agg #[.int .i64 x, .int .i64 y]] w fun e w' => e = .returned (.agg #[.int .i64 ((y) * S + DX), .int .i64 ((x) * S + DY)]) ∧ Below w.heap.size w w' := by
  have m1 := mulS (a := x) (s := S) (by omega) b2
  have m2 := mulS (a := y) (s := S) (by omega) b2
  have m3 := Int.neg_mul x S
  have m4 := Int.neg_mul y S
  go_enter Tryz.func57, Tryz.ntmps57
  go_wp2
  refine wp_loop_rounds 4 ?_
  rw [rounds_succ]; go_wp2
  rw [rounds_succ]; go_wp2
  rw [rounds_succ]; go_wp2
  rw [rounds_succ]; go_wp2
  exact bodyPost_ret (v := .agg #[.int .i64 ((y) * S + DX), .int .i64 ((x) * S + DY)]) (by simp [results, Tryz.results57, go_sem, Int.neg_mul]) rfl ⟨rfl, (((Below.refl _ _).alloc (Nat.le_refl _) _).alloc (by simp) _).alloc (by simp; omega) _⟩
end Go.Proofs.YtdlcckkphjpeoaaGreat
