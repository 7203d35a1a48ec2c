import Derived.Test.YtbfanhdofopnnaaGreatSl
import Derived.LoopN
set_option linter.unusedSimpArgs false
set_option linter.unusedVariables false
namespace PF
open Go Go.RowKit
def rotN : Nat → Int × Int → Int × Int
  | 0, p => p
  | n + 1, p => rotN n (-p.2, p.1)
/-- where a turn takes a point -/
def tpt (K S DX DY : Int) (p : Int × Int) : Int × Int :=
  let q := rotN (K % 4).toNat (if 4 ≤ K then (-p.1, p.2) else p)
  (q.1 * S + DX, q.2 * S + DY)
theorem mulS {a s : Int} (ha : -65536 ≤ a ∧ a ≤ 65536) (hs : 1 ≤ s ∧ s ≤ 8) : -524288 ≤ a * s ∧ a * s ≤ 524288 := by
  have h1 : (a * s).natAbs ≤ 65536 * 8 := by
    rw [Int.natAbs_mul]; exact Nat.mul_le_mul (by omega) (by omega)
  omega
end PF
namespace Go.Proofs.YtbfanhdofopnnaaGreat
open Go.RowKit PF JR

set_option maxHeartbeats 800000 in
theorem tp0_c (x y S DX DY : Int) (b1 : -65536 ≤ x ∧ x ≤ 65536 ∧ -65536 ≤ y ∧ y ≤ 65536) (b2 : 1 ≤ S ∧ S ≤ 8) (b3 : -65536 ≤ DX ∧ DX ≤ 65536 ∧ -65536 ≤ DY ∧ DY ≤ 65536) (w : World) :
    Calls Tryz.prog 65 #[.agg #[.int .u8 0, .int .i64 S, .int .i64 DX, .int .i64 DY], .agg #[.int .i64 x, .int .i64 y]] w fun e w' => e = .returned (.agg #[.int .i64 ((x) * S + DX), .int .i64 ((y) * S + DY)]) ∧ Below w.heap.size w w' := by
  have m1 := mulS (a := x) (s := S) (by omega) b2
  have m2 := mulS (a := y) (s := S) (by omega) b2
  have m3 := Int.neg_mul x S
  have m4 := Int.neg_mul y S
  go_enter Tryz.func65, Tryz.ntmps65
  go_wp2
  refine wp_loop_rounds 1 ?_
  rw [rounds_succ]; go_wp2
  exact bodyPost_ret (v := .agg #[.int .i64 ((x) * S + DX), .int .i64 ((y) * S + DY)]) (by simp [results, Tryz.results65, go_sem, Int.neg_mul]) rfl ⟨rfl, (((Below.refl _ _).alloc (Nat.le_refl _) _).alloc (by simp) _).alloc (by simp; omega) _⟩

set_option maxHeartbeats 800000 in
theorem tp1_c (x y S DX DY : Int) (b1 : -65536 ≤ x ∧ x ≤ 65536 ∧ -65536 ≤ y ∧ y ≤ 65536) (b2 : 1 ≤ S ∧ S ≤ 8) (b3 : -65536 ≤ DX ∧ DX ≤ 65536 ∧ -65536 ≤ DY ∧ DY ≤ 65536) (w : World) :
    Calls Tryz.prog 65 #[.agg #[.int .u8 1, .int .i64 S, .int .i64 DX, .int .i64 DY], .agg #[.int .i64 x, .int .i64 y]] w fun e w' => e = .returned (.agg #[.int .i64 ((-y) * S + DX), .int .i64 ((x) * S + DY)]) ∧ Below w.heap.size w w' := by
  have m1 := mulS (a := x) (s := S) (by omega) b2
  have m2 := mulS (a := y) (s := S) (by omega) b2
  have m3 := Int.neg_mul x S
  have m4 := Int.neg_mul y S
  go_enter Tryz.func65, Tryz.ntmps65
  go_wp2
  refine wp_loop_rounds 2 ?_
  rw [rounds_succ]; go_wp2
  rw [rounds_succ]; go_wp2
  exact bodyPost_ret (v := .agg #[.int .i64 ((-y) * S + DX), .int .i64 ((x) * S + DY)]) (by simp [results, Tryz.results65, go_sem, Int.neg_mul]) rfl ⟨rfl, (((Below.refl _ _).alloc (Nat.le_refl _) _).alloc (by simp) _).alloc (by simp; omega) _⟩

set_option maxHeartbeats 800000 in
theorem tp2_c (x y S DX DY : Int) (b1 : -65536 ≤ x ∧ x ≤ 65536 ∧ -65536 ≤ y ∧ y ≤ 65536) (b2 : 1 ≤ S ∧ S ≤ 8) (b3 : -65536 ≤ DX ∧ DX ≤ 65536 ∧ -65536 ≤ DY ∧ DY ≤ 65536) (w : World) :
    Calls Tryz.prog 65 #[.agg #[.int .u8 2, .int .i64 S, .int .i64 DX, .int .i64 DY], .agg #[.int .i64 x, .int .i64 y]] w fun e w' => e = .returned (.agg #[.int .i64 ((-x) * S + DX), .int .i64 ((-y) * S + DY)]) ∧ Below w.heap.size w w' := by
  have m1 := mulS (a := x) (s := S) (by omega) b2
  have m2 := mulS (a := y) (s := S) (by omega) b2
  have m3 := Int.neg_mul x S
  have m4 := Int.neg_mul y S
  go_enter Tryz.func65, Tryz.ntmps65
  go_wp2
  refine wp_loop_rounds 3 ?_
  rw [rounds_succ]; go_wp2
  rw [rounds_succ]; go_wp2
  rw [rounds_succ]; go_wp2
  exact bodyPost_ret (v := .agg #[.int .i64 ((-x) * S + DX), .int .i64 ((-y) * S + DY)]) (by simp [results, Tryz.results65, go_sem, Int.neg_mul]) rfl ⟨rfl, (((Below.refl _ _).alloc (Nat.le_refl _) _).alloc (by simp) _).alloc (by simp; omega) _⟩

set_option maxHeartbeats 800000 in
theorem tp3_c (x y S DX DY : Int) (b1 : -65536 ≤ x ∧ x ≤ 65536 ∧ -65536 ≤ y ∧ y ≤ 65536) (b2 : 1 ≤ S ∧ S ≤ 8) (b3 : -65536 ≤ DX ∧ DX ≤ 65536 ∧ -65536 ≤ DY ∧ DY ≤ 65536) (w : World) :
    Calls Tryz.prog 65 #[.agg #[.int .u8 3, .int .i64 S, .int .i64 DX, .int .i64 DY], .agg #[.int .i64 x, .int .i64 y]] w fun e w' => e = .returned (.agg #[.int .i64 ((y) * S + DX), .int .i64 ((-x) * S + DY)]) ∧ Below w.heap.size w w' := by
  have m1 := mulS (a := x) (s := S) (by omega) b2
  have m2 := mulS (a := y) (s := S) (by omega) b2
  have m3 := Int.neg_mul x S
  have m4 := Int.neg_mul y S
  go_enter Tryz.func65, Tryz.ntmps65
  go_wp2
  refine wp_loop_rounds 4 ?_
  rw [rounds_succ]; go_wp2
  rw [rounds_succ]; go_wp2
  rw [rounds_succ]; go_wp2
  rw [rounds_succ]; go_wp2
  exact bodyPost_ret (v := .agg #[.int .i64 ((y) * S + DX), .int .i64 ((-x) * S + DY)]) (by simp [results, Tryz.results65, go_sem, Int.neg_mul]) rfl ⟨rfl, (((Below.refl _ _).alloc (Nat.le_refl _) _).alloc (by simp) _).alloc (by simp; omega) _⟩

set_option maxHeartbeats 800000 in
theorem tp4_c (x y S DX DY : Int) (b1 : -65536 ≤ x ∧ x ≤ 65536 ∧ -65536 ≤ y ∧ y ≤ 65536) (b2 : 1 ≤ S ∧ S ≤ 8) (b3 : -65536 ≤ DX ∧ DX ≤ 65536 ∧ -65536 ≤ DY ∧ DY ≤ 65536) (w : World) :
    Calls Tryz.prog 65 #[.agg #[.int .u8 4, .int .i64 S, .int .i64 DX, .int .i64 DY], .agg #[.int .i64 x, .int .i64 y]] w fun e w' => e = .returned (.agg #[.int .i64 ((-x) * S + DX), .int .i64 ((y) * S + DY)]) ∧ Below w.heap.size w w' := by
  have m1 := mulS (a := x) (s := S) (by omega) b2
  have m2 := mulS (a := y) (s := S) (by omega) b2
  have m3 := Int.neg_mul x S
  have m4 := Int.neg_mul y S
  go_enter Tryz.func65, Tryz.ntmps65
  go_wp2
  refine wp_loop_rounds 1 ?_
  rw [rounds_succ]; go_wp2
  exact bodyPost_ret (v := .agg #[.int .i64 ((-x) * S + DX), .int .i64 ((y) * S + DY)]) (by simp [results, Tryz.results65, go_sem, Int.neg_mul]) rfl ⟨rfl, (((Below.refl _ _).alloc (Nat.le_refl _) _).alloc (by simp) _).alloc (by simp; omega) _⟩

set_option maxHeartbeats 800000 in
theorem tp5_c (x y S DX DY : Int) (b1 : -65536 ≤ x ∧ x ≤ 65536 ∧ -65536 ≤ y ∧ y ≤ 65536) (b2 : 1 ≤ S ∧ S ≤ 8) (b3 : -65536 ≤ DX ∧ DX ≤ 65536 ∧ -65536 ≤ DY ∧ DY ≤ 65536) (w : World) :
    Calls Tryz.prog 65 #[.agg #[.int .u8 5, .int .i64 S, .int .i64 DX, .int .i64 DY], .agg #[.int .i64 x, .int .i64 y]] w fun e w' => e = .returned (.agg #[.int .i64 ((-y) * S + DX), .int .i64 ((-x) * S + DY)]) ∧ Below w.heap.size w w' := by
  have m1 := mulS (a := x) (s := S) (by omega) b2
  have m2 := mulS (a := y) (s := S) (by omega) b2
  have m3 := Int.neg_mul x S
  have m4 := Int.neg_mul y S
  go_enter Tryz.func65, Tryz.ntmps65
  go_wp2
  refine wp_loop_rounds 2 ?_
  rw [rounds_succ]; go_wp2
  rw [rounds_succ]; go_wp2
  exact bodyPost_ret (v := .agg #[.int .i64 ((-y) * S + DX), .int .i64 ((-x) * S + DY)]) (by simp [results, Tryz.results65, go_sem, Int.neg_mul]) rfl ⟨rfl, (((Below.refl _ _).alloc (Nat.le_refl _) _).alloc (by simp) _).alloc (by simp; omega) _⟩

set_option maxHeartbeats 800000 in
theorem tp6_c (x y S DX DY : Int) (b1 : -65536 ≤ x ∧ x ≤ 65536 ∧ -65536 ≤ y ∧ y ≤ 65536) (b2 : 1 ≤ S ∧ S ≤ 8) (b3 : -65536 ≤ DX ∧ DX ≤ 65536 ∧ -65536 ≤ DY ∧ DY ≤ 65536) (w : World) :
    Calls Tryz.prog 65 #[.agg #[.int .u8 6, .int .i64 S, .int .i64 DX, .int .i64 DY], .agg #[.int .i64 x, .int .i64 y]] w fun e w' => e = .returned (.agg #[.int .i64 ((x) * S + DX), .int .i64 ((-y) * S + DY)]) ∧ Below w.heap.size w w' := by
  have m1 := mulS (a := x) (s := S) (by omega) b2
  have m2 := mulS (a := y) (s := S) (by omega) b2
  have m3 := Int.neg_mul x S
  have m4 := Int.neg_mul y S
  go_enter Tryz.func65, Tryz.ntmps65
  go_wp2
  refine wp_loop_rounds 3 ?_
  rw [rounds_succ]; go_wp2
  rw [rounds_succ]; go_wp2
  rw [rounds_succ]; go_wp2
  exact bodyPost_ret (v := .agg #[.int .i64 ((x) * S + DX), .int .i64 ((-y) * S + DY)]) (by simp [results, Tryz.results65, go_sem, Int.neg_mul]) rfl ⟨rfl, (((Below.refl _ _).alloc (Nat.le_refl _) _).alloc (by simp) _).alloc (by simp; omega) _⟩

set_option maxHeartbeats 800000 in
theorem tp7_c (x y S DX DY : Int) (b1 : -65536 ≤ x ∧ x ≤ 65536 ∧ -65536 ≤ y ∧ y ≤ 65536) (b2 : 1 ≤ S ∧ S ≤ 8) (b3 : -65536 ≤ DX ∧ DX ≤ 65536 ∧ -65536 ≤ DY ∧ DY ≤ 65536) (w : World) :
    Calls Tryz.prog 65 #[.agg #[.int .u8 7, .int .i64 S, .int .i64 DX, .int .i64 DY], .agg #[.int .i64 x, .int .i64 y]] w fun e w' => e = .returned (.agg #[.int .i64 ((y) * S + DX), .int .i64 ((x) * S + DY)]) ∧ Below w.heap.size w w' := by
  have m1 := mulS (a := x) (s := S) (by omega) b2
  have m2 := mulS (a := y) (s := S) (by omega) b2
  have m3 := Int.neg_mul x S
  have m4 := Int.neg_mul y S
  go_enter Tryz.func65, Tryz.ntmps65
  go_wp2
  refine wp_loop_rounds 4 ?_
  rw [rounds_succ]; go_wp2
  rw [rounds_succ]; go_wp2
  rw [rounds_succ]; go_wp2
  rw [rounds_succ]; go_wp2
  exact bodyPost_ret (v := .agg #[.int .i64 ((y) * S + DX), .int .i64 ((x) * S + DY)]) (by simp [results, Tryz.results65, go_sem, Int.neg_mul]) rfl ⟨rfl, (((Below.refl _ _).alloc (Nat.le_refl _) _).alloc (by simp) _).alloc (by simp; omega) _⟩
end Go.Proofs.YtbfanhdofopnnaaGreat
set_option linter.unusedSimpArgs false
set_option linter.unusedVariables false
namespace Go.Proofs.YtbfanhdofopnnaaGreat
open Go.RowKit PF JR

theorem tp_c (K x y S DX DY : Int) (b0 : 0 ≤ K ∧ K ≤ 7) (b1 : -65536 ≤ x ∧ x ≤ 65536 ∧ -65536 ≤ y ∧ y ≤ 65536) (b2 : 1 ≤ S ∧ S ≤ 8) (b3 : -65536 ≤ DX ∧ DX ≤ 65536 ∧ -65536 ≤ DY ∧ DY ≤ 65536) (w : World) :
    Calls Tryz.prog 65 #[.agg #[.int .u8 K, .int .i64 S, .int .i64 DX, .int .i64 DY], .agg #[.int .i64 x, .int .i64 y]] w fun e w' => e = .returned (.agg #[.int .i64 (tpt K S DX DY (x, y)).1, .int .i64 (tpt K S DX DY (x, y)).2]) ∧ Below w.heap.size w w' := by
  have hK : K = 0 ∨ K = 1 ∨ K = 2 ∨ K = 3 ∨ K = 4 ∨ K = 5 ∨ K = 6 ∨ K = 7 := by omega
  rcases hK with rfl | rfl | rfl | rfl | rfl | rfl | rfl | rfl
  · exact tp0_c x y S DX DY b1 b2 b3 w
  · exact tp1_c x y S DX DY b1 b2 b3 w
  · exact tp2_c x y S DX DY b1 b2 b3 w
  · have h := tp3_c x y S DX DY b1 b2 b3 w
    simpa [tpt, rotN, show ((3 : Int) % 4).toNat = 3 from rfl] using h
  · exact tp4_c x y S DX DY b1 b2 b3 w
  · exact tp5_c x y S DX DY b1 b2 b3 w
  · have h := tp6_c x y S DX DY b1 b2 b3 w
    simpa [tpt, rotN, show ((6 : Int) % 4).toNat = 2 from rfl] using h
  · have h := tp7_c x y S DX DY b1 b2 b3 w
    simpa [tpt, rotN, show ((7 : Int) % 4).toNat = 3 from rfl] using h

theorem ivt_c (K S DX DY : Int) (w : World) :
    Calls Tryz.prog 12 #[.agg #[.int .u8 K, .int .i64 S, .int .i64 DX, .int .i64 DY]] w fun e w' => e = .returned (.bool (decide (K ≤ 7 ∧ 1 ≤ S ∧ S ≤ 8 ∧ -4096 ≤ DX ∧ DX ≤ 4096 ∧ -4096 ≤ DY ∧ DY ≤ 4096))) ∧ Below w.heap.size w w' := by
  generalize hAns : decide (K ≤ 7 ∧ 1 ≤ S ∧ S ≤ 8 ∧ -4096 ≤ DX ∧ DX ≤ 4096 ∧ -4096 ≤ DY ∧ DY ≤ 4096) = ans
  go_enter Tryz.func12, Tryz.ntmps12
  go_wp2
  all_goals
    go_ret
    exact ⟨retB hAns (by simp; omega), (Below.refl _ _).alloc (Nat.le_refl _) _⟩

theorem own_none (v : Value) : v.ownBlock = none ∨ v.ownBlock ≠ none := by cases v.ownBlock <;> simp
theorem new_cells (w : World) (T : TypeId) (x y : Value) : ∀ (j : Nat) (u : Value), [x, y][j]? = some u → (w.alloc (.cells #[x, y] T)).cell? ((⟨w.heap.size, 0, none⟩ : Addr).add j) = some u := by
  intro j u h
  have e : (⟨w.heap.size, 0, none⟩ : Addr).add j = ⟨w.heap.size, 0 + j, none⟩ := by unfold Addr.add; split <;> simp_all
  rw [e]
  have hh := heap_alloc_new w (.cells #[x, y] T)
  unfold World.cell?
  simp only [hh]
  match j, h with
  | 0, h => simpa using h
  | 1, h => simpa using h

theorem infoP : (Tryz.prog.info? 42).map (fun i => (i.zero, i.size, i.bytes)) = some (some (.agg #[.int .i64 0, .int .i64 0]), 2, 16) := by kernel_rfl

set_option maxHeartbeats 1000000 in
theorem varyTurned_c (K S DX DY : Int) (b0 : 0 ≤ K ∧ K ≤ 7) (b2 : 1 ≤ S ∧ S ≤ 8) (b3 : -65536 ≤ DX ∧ DX ≤ 65536 ∧ -65536 ≤ DY ∧ DY ≤ 65536) (l : List (Int × Int)) (b1 : ∀ p ∈ l, -65536 ≤ p.1 ∧ p.1 ≤ 65536 ∧ -65536 ≤ p.2 ∧ p.2 ≤ 65536) (hl : l.length ≤ 2147483647) (v : Value) (w : World) (hv : SlP w v l) :
    Calls Tryz.prog 37 #[.agg #[.int .u8 K, .int .i64 S, .int .i64 DX, .int .i64 DY], v] w fun e w' => ∃ v', e = .returned v' ∧ SlP w' v' (l.map (tpt K S DX DY)) ∧ Below w.heap.size w w' := by
  obtain ⟨A, c, rfl, hk⟩ := hv
  obtain ⟨i0, hi, hz0, hz1, hz2⟩ := info_parts infoP
  go_enter Tryz.func37, Tryz.ntmps37
  go_wp2
  go_loopw [5, 10] (fun v i wr => ∃ k : Nat, k ≤ l.length ∧ i = .int .i64 k ∧ wr.ownsRow (w.heap.size + 1) 42 2 v k (cellsP ((l.map (tpt K S DX DY)).take k)) ∧ Below (w.heap.size + 1) (w.alloc (.cells #[.int .u8 K, .int .i64 S, .int .i64 DX, .int .i64 DY] 23)) wr) (fun _ i _ => l.length - (intOf i).toNat)
  case atStart => exact ⟨0, Nat.zero_le _, rfl, World.ownsRow_nil _ _ _ _, Below.refl _ _⟩
  case round =>
    obtain ⟨k, hkl, rfl, hown, hnx⟩ := hrel
    have hsz : w.heap.size + 1 ≤ wr.heap.size := by have := hnx.size; simpa using this
    rcases Nat.lt_or_ge k l.length with hlt | hge
    · obtain ⟨p, hp⟩ : ∃ p, l[k]? = some p := ⟨l[k], by simp [hlt]⟩
      obtain ⟨b, off, rfl, h1, h2⟩ := hk k p hp
      have hbw := World.block_lt_of_cell? w _ h1
      have g1 : wr.cell? ⟨b, off + k * 2, none⟩ = some (.int .i64 p.1) := (hnx.cell (by show b < _; simp at hbw; omega)).trans ((World.cell?_of_block (Below.heap_alloc w _ b (by simpa using hbw))).trans h1)
      have g2 : wr.cell? ⟨b, off + k * 2 + 1, none⟩ = some (.int .i64 p.2) := (hnx.cell (by show b < _; simp at hbw; omega)).trans ((World.cell?_of_block (Below.heap_alloc w _ b (by simpa using hbw))).trans h2)
      have t0 : (wr.alloc (.cells #[.int .i64 p.1, .int .i64 p.2] 42)).cell? ⟨w.heap.size, 0, none⟩ = some (.int .u8 K) := ((hnx.alloc hsz _).cell (by show w.heap.size < _; omega)).trans (by simp [go_sem])
      have t1 : (wr.alloc (.cells #[.int .i64 p.1, .int .i64 p.2] 42)).cell? ⟨w.heap.size, 1, none⟩ = some (.int .i64 S) := ((hnx.alloc hsz _).cell (by show w.heap.size < _; omega)).trans (by simp [go_sem])
      have t2 : (wr.alloc (.cells #[.int .i64 p.1, .int .i64 p.2] 42)).cell? ⟨w.heap.size, 2, none⟩ = some (.int .i64 DX) := ((hnx.alloc hsz _).cell (by show w.heap.size < _; omega)).trans (by simp [go_sem])
      have t3 : (wr.alloc (.cells #[.int .i64 p.1, .int .i64 p.2] 42)).cell? ⟨w.heap.size, 3, none⟩ = some (.int .i64 DY) := ((hnx.alloc hsz _).cell (by show w.heap.size < _; omega)).trans (by simp [go_sem])
      have bp := b1 p (List.mem_of_getElem? hp)
      have hB1 : Below (w.heap.size + 1) (w.alloc (.cells #[.int .u8 K, .int .i64 S, .int .i64 DX, .int .i64 DY] 23)) (wr.alloc (.cells #[.int .i64 p.1, .int .i64 p.2] 42)) := hnx.alloc hsz _
      have ho1 := hown.alloc (.cells #[.int .i64 p.1, .int .i64 p.2] 42)
      have hp' : (l.map (tpt K S DX DY))[k]? = some (tpt K S DX DY p) := by simp [hp]
      clear h1 h2 hk hbw hown hnx
      go_wp2_with (first | (go_at_call 65; refine (tp_c K p.1 p.2 S DX DY b0 bp b2 b3 _).mono ?_; rintro e w1 ⟨rfl, hc⟩; have ho2 := ho1.kept (Ext.grown hc none) (own_none _)) | (at_builtin; refine wpList_append_own _ rfl _ _ 24 rfl (w.heap.size + 1) 42 i0 (.agg #[.int .i64 0, .int .i64 0]) 2 16 Tryz.underlying24 hi hz0 hz1 hz2 rfl (by decide) _ _ _ rfl (ho2.alloc _) ⟨w1.heap.size, 0, none⟩ 1 1 [.int .i64 (tpt K S DX DY (p.1, p.2)).1, .int .i64 (tpt K S DX DY (p.1, p.2)).2] rfl rfl ?c1 ?c2 ?c3 ?c4 ?c5 ?_))
      case c1 => exact new_cells _ _ _ _
      case c2 => intro u hu; simp at hu; rcases hu with rfl | rfl <;> rfl
      case c3 => unfold maxLen; omega
      case c4 => omega
      case c5 => have := hc.size; simp at this ⊢; omega
      intro v' w2 hown' hgrow _
      have hs1 : w.heap.size + 1 ≤ w1.heap.size := by have := hc.size; simp at this; omega
      have hB := row_below ((hB1.trans (hc.mono (by simp; omega))).alloc hs1 _) hgrow (fun g hg => (ho2.lt g hg).1) (by simp; omega)
      rw [← cellsP_snoc _ k _ hp'] at hown'
      clear hgrow ho2 ho1 hB1 hc t0 t1 t2 t3 g1 g2
      go_wp2
      go_roundw
      case rel => exact ⟨k + 1, by omega, by go_num, hown', hB⟩
      case measure => simp [intOf]; omega
    · have hkk : k = l.length := by omega
      subst hkk
      rw [show l.length = (l.map (tpt K S DX DY)).length from by simp, List.take_length] at hown
      clear hk
      go_wp2
      go_ret
      exact ⟨_, rfl, SlP.own hown, ((Below.refl _ _).alloc (Nat.le_refl _) _).trans (hnx.mono (by omega))⟩
end Go.Proofs.YtbfanhdofopnnaaGreat
set_option linter.unusedSimpArgs false
set_option linter.unusedVariables false
namespace Go.Proofs.YtbfanhdofopnnaaGreat
open Go.RowKit PF JR
/-- a point whose coordinates are small -/
def _root_.PF.okP (p : Int × Int) : Bool := decide (-1024 ≤ p.1 ∧ p.1 ≤ 1024 ∧ -1024 ≤ p.2 ∧ p.2 ≤ 1024)

set_option maxHeartbeats 1000000 in
theorem isVaryP_c (l : List (Int × Int)) (hl : l.length ≤ 2147483647) (v : Value) (w : World) (hv : SlP w v l) :
    Calls Tryz.prog 29 #[v] w fun e w' => e = .returned (.bool (l.all okP)) ∧ Below w.heap.size w w' := by
  obtain ⟨A, c, rfl, hk⟩ := hv
  generalize hAns : l.all okP = ans
  go_enter Tryz.func29, Tryz.ntmps29
  go_wp2
  go_loopw [7] (fun i wr => ∃ k : Nat, k ≤ l.length ∧ i = .int .i64 k ∧ (l.take k).all okP = true ∧ Below w.heap.size w wr) (fun i _ => l.length - (intOf i).toNat)
  case atStart => exact ⟨0, Nat.zero_le _, rfl, by simp, Below.refl _ _⟩
  case round =>
    obtain ⟨k, hkl, rfl, hall, hnx⟩ := hrel
    rcases Nat.lt_or_ge k l.length with hlt | hge
    · obtain ⟨p, hp⟩ : ∃ p, l[k]? = some p := ⟨l[k], by simp [hlt]⟩
      obtain ⟨b, off, rfl, h1, h2⟩ := hk k p hp
      have g1 := (hnx.cell (World.block_lt_of_cell? w _ h1)).trans h1
      have g2 := (hnx.cell (World.block_lt_of_cell? w _ h2)).trans h2
      have hB := hnx.alloc hnx.size (.cells #[.int .i64 p.1, .int .i64 p.2] 59)
      clear h1 h2 hk hnx
      cases hok : okP p with
      | false =>
        have hans : ans = false := by
          rw [← hAns]
          cases h : l.all okP with
          | false => rfl
          | true => rw [List.all_eq_true] at h; rw [h p (List.mem_of_getElem? hp)] at hok; cases hok
        have hno := of_decide_eq_false hok
        clear hAns hall hok
        go_wp2
        all_goals first
          | (go_ret; exact ⟨by first | rfl | (rw [hans]; rfl), hB⟩)
          | (exfalso; simp at *; omega)
      | true =>
        have hyes := of_decide_eq_true hok
        have hall' : (l.take (k + 1)).all okP = true := by rw [List.take_add_one, hp]; simp [hall, hok]
        clear hAns hall hok
        obtain ⟨y1, y2, y3, y4⟩ := hyes
        go_wp2
        all_goals first
          | (exfalso; simp at *; omega)
          | skip
        go_roundw
        case rel => exact ⟨k + 1, by omega, by go_num, hall', hB⟩
        case measure => simp [intOf]; omega
    · have hkk : k = l.length := by omega
      subst hkk
      rw [List.take_length] at hall
      rw [hAns] at hall
      clear hk
      go_wp2
      go_ret
      exact ⟨by rw [hall]; rfl, hnx⟩

set_option maxHeartbeats 1000000 in
theorem varyPoints_c (l : List (Int × Int)) (n m : Int) (hl : l.length ≤ 2147483647) (v : Value) (w : World) (hv : SlP w v l) :
    Calls Tryz.prog 20 #[v, .int .i64 n, .int .i64 m] w fun e w' => e = .returned (.bool (decide (n ≤ l.length ∧ (l.length : Int) ≤ m ∧ l.all okP = true))) ∧ Below w.heap.size w w' := by
  have hv0 := hv
  obtain ⟨A, c, rfl, hk⟩ := hv
  generalize hAns : decide (n ≤ l.length ∧ (l.length : Int) ≤ m ∧ l.all okP = true) = ans
  by_cases c1 : n ≤ l.length
  · by_cases c2 : (l.length : Int) ≤ m
    · have e : ans = l.all okP := by rw [← hAns]; simp [c1, c2]
      clear hAns
      subst e
      clear hk
      generalize hO : l.all okP = ok
      have d1 : decide (n ≤ (l.length : Int)) = true := decide_eq_true c1
      have d2 : decide ((l.length : Int) ≤ m) = true := decide_eq_true c2
      go_enter Tryz.func20, Tryz.ntmps20
      go_wp2_with (first | (go_at_call 19; refine (varyOf_c l hl _ _ hv0).mono ?_; rintro e w1 ⟨v', rfl, hs, hb⟩) | (go_at_call 29; refine (isVaryP_c l hl _ _ hs).mono ?_; rw [hO]; rintro e w2 ⟨rfl, hc⟩))
      go_ret
      exact ⟨rfl, hb.trans (hc.mono hb.size)⟩
    · have e : ans = false := by rw [← hAns]; simp [c2]
      clear hAns
      subst e
      have d1 : decide (n ≤ (l.length : Int)) = true := decide_eq_true c1
      have d2 : decide ((l.length : Int) ≤ m) = false := decide_eq_false c2
      clear hk hv0
      go_enter Tryz.func20, Tryz.ntmps20
      go_wp2
      go_ret
      exact ⟨rfl, Below.refl _ _⟩
  · have e : ans = false := by rw [← hAns]; simp [c1]
    clear hAns
    subst e
    have d1 : decide (n ≤ (l.length : Int)) = false := decide_eq_false c1
    clear hk hv0
    go_enter Tryz.func20, Tryz.ntmps20
    go_wp2
    go_ret
    exact ⟨rfl, Below.refl _ _⟩
end Go.Proofs.YtbfanhdofopnnaaGreat
