import Derived.Test.YtbfanhdofopnnaaGreatSl
import Derived.LoopN
set_option linter.unusedSimpArgs false
set_option linter.unusedVariables false
namespace PF
open Go Go.RowKit
def rotN : Nat → Int × Int → Int × Int
  | 0, p => p
  | n + 1, p => rotN n (-p.2, p.1)
/-- where a turn takes a point -/
def tpt (K S DX DY : Int) (p : Int × Int) : Int × Int :=
  let q := rotN (K % 4).toNat (if 4 ≤ K then (-p.1, p.2) else p)
  (q.1 * S + DX, q.2 * S + DY)
theorem mulS {a s : Int} (ha : -65536 ≤ a ∧ a ≤ 65536) (hs : 1 ≤ s ∧ s ≤ 8) : -524288 ≤ a * s ∧ a * s ≤ 524288 := by
  have h1 : (a * s).natAbs ≤ 65536 * 8 := by
    rw [Int.natAbs_mul]; exact Nat.mul_le_mul (by omega) (by omega)
  omega
end PF
namespace Go.Proofs.YtbfanhdofopnnaaGreat
open Go.RowKit PF JR

set_option maxHeartbeats 800000 in
theorem tp0_c (x y S DX DY : Int) (b1 : -65536 ≤ x ∧ x ≤ 65536 ∧ -65536 ≤ y ∧ y ≤ 65536) (b2 : 1 ≤ S ∧ S ≤ 8) (b3 : -65536 ≤ DX ∧ DX ≤ 65536 ∧ -65536 ≤ DY ∧ DY ≤ 65536) (w : World) :
    Calls Tryz.prog 65 #[.agg #[.int .u8 0, .int .i64 S, .int .i64 DX, .int .i64 DY], .agg #[.int .i64 x, .int .i64 y]] w fun e w' => e = .returned (.agg #[.int .i64 ((x) * S + DX), .int .i64 ((y) * S + DY)]) ∧ Below w.heap.size w w' := by
  have m1 := mulS (a := x) (s := S) (by omega) b2
  have m2 := mulS (a := y) (s := S) (by omega) b2
  have m3 := Int.neg_mul x S
  have m4 := Int.neg_mul y S
  go_enter Tryz.func65, Tryz.ntmps65
  go_wp2
  refine wp_loop_rounds 1 ?_
  rw [rounds_succ]; go_wp2
  exact bodyPost_ret (v := .agg #[.int .i64 ((x) * S + DX), .int .i64 ((y) * S + DY)]) (by simp [results, Tryz.results65, go_sem, Int.neg_mul]) rfl ⟨rfl, (((Below.refl _ _).alloc (Nat.le_refl _) _).alloc (by simp) _).alloc (by simp; omega) _⟩

set_option maxHeartbeats 800000 in
theorem tp1_c (x y S DX DY : Int) (b1 : -65536 ≤ x ∧ x ≤ 65536 ∧ -65536 ≤ y ∧ y ≤ 65536) (b2 : 1 ≤ S ∧ S ≤ 8) (b3 : -65536 ≤ DX ∧ DX ≤ 65536 ∧ -65536 ≤ DY ∧ DY ≤ 65536) (w : World) :
    Calls Tryz.prog 65 #[.agg #[.int .u8 1, .int .i64 S, .int .i64 DX, .int .i64 DY], .agg #[.int .i64 x, .int .i64 y]] w fun e w' => e = .returned (.agg #[.int .i64 ((-y) * S + DX), .int .i64 ((x) * S + DY)]) ∧ Below w.heap.size w w' := by
  have m1 := mulS (a := x) (s := S) (by omega) b2
  have m2 := mulS (a := y) (s := S) (by omega) b2
  have m3 := Int.neg_mul x S
  have m4 := Int.neg_mul y S
  go_enter Tryz.func65, Tryz.ntmps65
  go_wp2
  refine wp_loop_rounds 2 ?_
  rw [rounds_succ]; go_wp2
  rw [rounds_succ]; go_wp2
  exact bodyPost_ret (v := .agg #[.int .i64 ((-y) * S + DX), .int .i64 ((x) * S + DY)]) (by simp [results, Tryz.results65, go_sem, Int.neg_mul]) rfl ⟨rfl, (((Below.refl _ _).alloc (Nat.le_refl _) _).alloc (by simp) _).alloc (by simp; omega) _⟩

set_option maxHeartbeats 800000 in
theorem tp2_c (x y S DX DY : Int) (b1 : -65536 ≤ x ∧ x ≤ 65536 ∧ -65536 ≤ y ∧ y ≤ 65536) (b2 : 1 ≤ S ∧ S ≤ 8) (b3 : -65536 ≤ DX ∧ DX ≤ 65536 ∧ -65536 ≤ DY ∧ DY ≤ 65536) (w : World) :
    Calls Tryz.prog 65 #[.agg #[.int .u8 2, .int .i64 S, .int .i64 DX, .int .i64 DY], .agg #[.int .i64 x, .int .i64 y]] w fun e w' => e = .returned (.agg #[.int .i64 ((-x) * S + DX), .int .i64 ((-y) * S + DY)]) ∧ Below w.heap.size w w' := by
  have m1 := mulS (a := x) (s := S) (by omega) b2
  have m2 := mulS (a := y) (s := S) (by omega) b2
  have m3 := Int.neg_mul x S
  have m4 := Int.neg_mul y S
  go_enter Tryz.func65, Tryz.ntmps65
  go_wp2
  refine wp_loop_rounds 3 ?_
  rw [rounds_succ]; go_wp2
  rw [rounds_succ]; go_wp2
  rw [rounds_succ]; go_wp2
  exact bodyPost_ret (v := .agg #[.int .i64 ((-x) * S + DX), .int .i64 ((-y) * S + DY)]) (by simp [results, Tryz.results65, go_sem, Int.neg_mul]) rfl ⟨rfl, (((Below.refl _ _).alloc (Nat.le_refl _) _).alloc (by simp) _).alloc (by simp; omega) _⟩

set_option maxHeartbeats 800000 in
theorem tp3_c (x y S DX DY : Int) (b1 : -65536 ≤ x ∧ x ≤ 65536 ∧ -65536 ≤ y ∧ y ≤ 65536) (b2 : 1 ≤ S ∧ S ≤ 8) (b3 : -65536 ≤ DX ∧ DX ≤ 65536 ∧ -65536 ≤ DY ∧ DY ≤ 65536) (w : World) :
    Calls Tryz.prog 65 #[.agg #[.int .u8 3, .int .i64 S, .int .i64 DX, .int .i64 DY], .agg #[.int .i64 x, .int .i64 y]] w fun e w' => e = .returned (.agg #[.int .i64 ((y) * S + DX), .int .i64 ((-x) * S + DY)]) ∧ Below w.heap.size w w' := by
  have m1 := mulS (a := x) (s := S) (by omega) b2
  have m2 := mulS (a := y) (s := S) (by omega) b2
  have m3 := Int.neg_mul x S
  have m4 := Int.neg_mul y S
  go_enter Tryz.func65, Tryz.ntmps65
  go_wp2
  refine wp_loop_rounds 4 ?_
  rw [rounds_succ]; go_wp2
  rw [rounds_succ]; go_wp2
  rw [rounds_succ]; go_wp2
  rw [rounds_succ]; go_wp2
  exact bodyPost_ret (v := .agg #[.int .i64 ((y) * S + DX), .int .i64 ((-x) * S + DY)]) (by simp [results, Tryz.results65, go_sem, Int.neg_mul]) rfl ⟨rfl, (((Below.refl _ _).alloc (Nat.le_refl _) _).alloc (by simp) _).alloc (by simp; omega) _⟩

set_option maxHeartbeats 800000 in
theorem tp4_c (x y S DX DY : Int) (b1 : -65536 ≤ x ∧ x ≤ 65536 ∧ -65536 ≤ y ∧ y ≤ 65536) (b2 : 1 ≤ S ∧ S ≤ 8) (b3 : -65536 ≤ DX ∧ DX ≤ 65536 ∧ -65536 ≤ DY ∧ DY ≤ 65536) (w : World) :
    Calls Tryz.prog 65 #[.agg #[.int .u8 4, .int .i64 S, .int .i64 DX, .int .i64 DY], .agg #[.int .i64 x, .int .i64 y]] w fun e w' => e = .returned (.agg #[.int .i64 ((-x) * S + DX), .int .i64 ((y) * S + DY)]) ∧ Below w.heap.size w w' := by
  have m1 := mulS (a := x) (s := S) (by omega) b2
  have m2 := mulS (a := y) (s := S) (by omega) b2
  have m3 := Int.neg_mul x S
  have m4 := Int.neg_mul y S
  go_enter Tryz.func65, Tryz.ntmps65
  go_wp2
  refine wp_loop_rounds 1 ?_
  rw [rounds_succ]; go_wp2
  exact bodyPost_ret (v := .agg #[.int .i64 ((-x) * S + DX), .int .i64 ((y) * S + DY)]) (by simp [results, Tryz.results65, go_sem, Int.neg_mul]) rfl ⟨rfl, (((Below.refl _ _).alloc (Nat.le_refl _) _).alloc (by simp) _).alloc (by simp; omega) _⟩

set_option maxHeartbeats 800000 in
theorem tp5_c (x y S DX DY : Int) (b1 : -65536 ≤ x ∧ x ≤ 65536 ∧ -65536 ≤ y ∧ y ≤ 65536) (b2 : 1 ≤ S ∧ S ≤ 8) (b3 : -65536 ≤ DX ∧ DX ≤ 65536 ∧ -65536 ≤ DY ∧ DY ≤ 65536) (w : World) :
    Calls Tryz.prog 65 #[.agg #[.int .u8 5, .int .i64 S, .int .i64 DX, .int .i64 DY], .agg #[.int .i64 x, .int .i64 y]] w fun e w' => e = .returned (.agg #[.int .i64 ((-y) * S + DX), .int .i64 ((-x) * S + DY)]) ∧ Below w.heap.size w w' := by
  have m1 := mulS (a := x) (s := S) (by omega) b2
  have m2 := mulS (a := y) (s := S) (by omega) b2
  have m3 := Int.neg_mul x S
  have m4 := Int.neg_mul y S
  go_enter Tryz.func65, Tryz.ntmps65
  go_wp2
  refine wp_loop_rounds 2 ?_
  rw [rounds_succ]; go_wp2
  rw [rounds_succ]; go_wp2
  exact bodyPost_ret (v := .agg #[.int .i64 ((-y) * S + DX), .int .i64 ((-x) * S + DY)]) (by simp [results, Tryz.results65, go_sem, Int.neg_mul]) rfl ⟨rfl, (((Below.refl _ _).alloc (Nat.le_refl _) _).alloc (by simp) _).alloc (by simp; omega) _⟩

set_option maxHeartbeats 800000 in
theorem tp6_c (x y S DX DY : Int) (b1 : -65536 ≤ x ∧ x ≤ 65536 ∧ -65536 ≤ y ∧ y ≤ 65536) (b2 : 1 ≤ S ∧ S ≤ 8) (b3 : -65536 ≤ DX ∧ DX ≤ 65536 ∧ -65536 ≤ DY ∧ DY ≤ 65536) (w : World) :
    Calls Tryz.prog 65 #[.agg #[.int .u8 6, .int .i64 S, .int .i64 DX, .int .i64 DY], .agg #[.int .i64 x, .int .i64 y]] w fun e w' => e = .returned (.agg #[.int .i64 ((x) * S + DX), .int .i64 ((-y) * S + DY)]) ∧ Below w.heap.size w w' := by
  have m1 := mulS (a := x) (s := S) (by omega) b2
  have m2 := mulS (a := y) (s := S) (by omega) b2
  have m3 := Int.neg_mul x S
  have m4 := Int.neg_mul y S
  go_enter Tryz.func65, Tryz.ntmps65
  go_wp2
  refine wp_loop_rounds 3 ?_
  rw [rounds_succ]; go_wp2
  rw [rounds_succ]; go_wp2
  rw [rounds_succ]; go_wp2
  exact bodyPost_ret (v := .agg #[.int .i64 ((x) * S + DX), .int .i64 ((-y) * S + DY)]) (by simp [results, Tryz.results65, go_sem, Int.neg_mul]) rfl ⟨rfl, (((Below.refl _ _).alloc (Nat.le_refl _) _).alloc (by simp) _).alloc (by simp; omega) _⟩

set_option maxHeartbeats 800000 in
theorem tp7_c (x y S DX DY : Int) (b1 : -65536 ≤ x ∧ x ≤ 65536 ∧ -65536 ≤ y ∧ y ≤ 65536) (b2 : 1 ≤ S ∧ S ≤ 8) (b3 : -65536 ≤ DX ∧ DX ≤ 65536 ∧ -65536 ≤ DY ∧ DY ≤ 65536) (w : World) :
    Calls Tryz.prog 65 #[.agg #[.int .u8 7, .int .i64 S, .int .i64 DX, .int .i64 DY], .agg #[.int .i64 x, .int .i64 y]] w fun e w' => e = .returned (.agg #[.int .i64 ((y) * S + DX), .int .i64 ((x) * S + DY)]) ∧ Below w.heap.size w w' := by
  have m1 := mulS (a := x) (s := S) (by omega) b2
  have m2 := mulS (a := y) (s := S) (by omega) b2
  have m3 := Int.neg_mul x S
  have m4 := Int.neg_mul y S
  go_enter Tryz.func65, Tryz.ntmps65
  go_wp2
  refine wp_loop_rounds 4 ?_
  rw [rounds_succ]; go_wp2
  rw [rounds_succ]; go_wp2
  rw [rounds_succ]; go_wp2
  rw [rounds_succ]; go_wp2
  exact bodyPost_ret (v := .agg #[.int .i64 ((y) * S + DX), .int .i64 ((x) * S + DY)]) (by simp [results, Tryz.results65, go_sem, Int.neg_mul]) rfl ⟨rfl, (((Below.refl _ _).alloc (Nat.le_refl _) _).alloc (by simp) _).alloc (by simp; omega) _⟩
end Go.Proofs.YtbfanhdofopnnaaGreat
set_option linter.unusedSimpArgs false
set_option linter.unusedVariables false
namespace Go.Proofs.YtbfanhdofopnnaaGreat
open Go.RowKit PF JR

theorem tp_c (K x y S DX DY : Int) (b0 : 0 ≤ K ∧ K ≤ 7) (b1 : -65536 ≤ x ∧ x ≤ 65536 ∧ -65536 ≤ y ∧ y ≤ 65536) (b2 : 1 ≤ S ∧ S ≤ 8) (b3 : -65536 ≤ DX ∧ DX ≤ 65536 ∧ -65536 ≤ DY ∧ DY ≤ 65536) (w : World) :
    Calls Tryz.prog 65 #[.agg #[.int .u8 K, .int .i64 S, .int .i64 DX, .int .i64 DY], .agg #[.int .i64 x, .int .i64 y]] w fun e w' => e = .returned (.agg #[.int .i64 (tpt K S DX DY (x, y)).1, .int .i64 (tpt K S DX DY (x, y)).2]) ∧ Below w.heap.size w w' := by
  have hK : K = 0 ∨ K = 1 ∨ K = 2 ∨ K = 3 ∨ K = 4 ∨ K = 5 ∨ K = 6 ∨ K = 7 := by omega
  rcases hK with rfl | rfl | rfl | rfl | rfl | rfl | rfl | rfl
  · exact tp0_c x y S DX DY b1 b2 b3 w
  · exact tp1_c x y S DX DY b1 b2 b3 w
  · exact tp2_c x y S DX DY b1 b2 b3 w
  · have h := tp3_c x y S DX DY b1 b2 b3 w
    simpa [tpt, rotN, show ((3 : Int) % 4).toNat = 3 from rfl] using h
  · exact tp4_c x y S DX DY b1 b2 b3 w
  · exact tp5_c x y S DX DY b1 b2 b3 w
  · have h := tp6_c x y S DX DY b1 b2 b3 w
    simpa [tpt, rotN, show ((6 : Int) % 4).toNat = 2 from rfl] using h
  · have h := tp7_c x y S DX DY b1 b2 b3 w
    simpa [tpt, rotN, show ((7 : Int) % 4).toNat = 3 from rfl] using h

theorem ivt_c (K S DX DY : Int) (w : World) :
    Calls Tryz.prog 12 #[.agg #[.int .u8 K, .int .i64 S, .int .i64 DX, .int .i64 DY]] w fun e w' => e = .returned (.bool (decide (K ≤ 7 ∧ 1 ≤ S ∧ S ≤ 8 ∧ -4096 ≤ DX ∧ DX ≤ 4096 ∧ -4096 ≤ DY ∧ DY ≤ 4096))) ∧ Below w.heap.size w w' := by
  generalize hAns : decide (K ≤ 7 ∧ 1 ≤ S ∧ S ≤ 8 ∧ -4096 ≤ DX ∧ DX ≤ 4096 ∧ -4096 ≤ DY ∧ DY ≤ 4096) = ans
  go_enter Tryz.func12, Tryz.ntmps12
  go_wp2
  all_goals
    go_ret
    exact ⟨retB hAns (by simp; omega), (Below.refl _ _).alloc (Nat.le_refl _) _⟩

theorem own_none (v : Value) : v.ownBlock = none ∨ v.ownBlock ≠ none := by cases v.ownBlock <;> simp
theorem new_cells (w : World) (T : TypeId) (x y : Value) : ∀ (j : Nat) (u : Value), [x, y][j]? = some u → (w.alloc (.cells #[x, y] T)).cell? ((⟨w.heap.size, 0, none⟩ : Addr).add j) = some u := by
  intro j u h
  have e : (⟨w.heap.size, 0, none⟩ : Addr).add j = ⟨w.heap.size, 0 + j, none⟩ := by unfold Addr.add; split <;> simp_all
  rw [e]
  have hh := heap_alloc_new w (.cells #[x, y] T)
  unfold World.cell?
  simp only [hh]
  match j, h with
  | 0, h => simpa using h
  | 1, h => simpa using h

theorem infoP : (Tryz.prog.info? 42).map (fun i => (i.zero, i.size, i.bytes)) = some (some (.agg #[.int .i64 0, .int .i64 0]), 2, 16) := by kernel_rfl

end Go.Proofs.YtbfanhdofopnnaaGreat
set_option linter.unusedSimpArgs false
set_option linter.unusedVariables false
namespace Go.Proofs.YtbfanhdofopnnaaGreat
open Go.RowKit PF JR
/-- a point whose coordinates are small -/
def _root_.PF.okP (p : Int × Int) : Bool := decide (-1024 ≤ p.1 ∧ p.1 ≤ 1024 ∧ -1024 ≤ p.2 ∧ p.2 ≤ 1024)

set_option maxHeartbeats 1000000 in
theorem isVaryP_c (l : List (Int × Int)) (hl : l.length ≤ 2147483647) (v : Value) (w : World) (hv : SlP w v l) :
    Calls Tryz.prog 29 #[v] w fun e w' => e = .returned (.bool (l.all okP)) ∧ Below w.heap.size w w' := by
  obtain ⟨A, c, rfl, hk⟩ := hv
  generalize hAns : l.all okP = ans
  go_enter Tryz.func29, Tryz.ntmps29
  go_wp2
  go_loopw [7] (fun i wr => ∃ k : Nat, k ≤ l.length ∧ i = .int .i64 k ∧ (l.take k).all okP = true ∧ Below w.heap.size w wr) (fun i _ => l.length - (intOf i).toNat)
  case atStart => exact ⟨0, Nat.zero_le _, rfl, by simp, Below.refl _ _⟩
  case round =>
    obtain ⟨k, hkl, rfl, hall, hnx⟩ := hrel
    rcases Nat.lt_or_ge k l.length with hlt | hge
    · obtain ⟨p, hp⟩ : ∃ p, l[k]? = some p := ⟨l[k], by simp [hlt]⟩
      obtain ⟨b, off, rfl, h1, h2⟩ := hk k p hp
      have g1 := (hnx.cell (World.block_lt_of_cell? w _ h1)).trans h1
      have g2 := (hnx.cell (World.block_lt_of_cell? w _ h2)).trans h2
      have hB := hnx.alloc hnx.size (.cells #[.int .i64 p.1, .int .i64 p.2] 59)
      clear h1 h2 hk hnx
      cases hok : okP p with
      | false =>
        have hans : ans = false := by
          rw [← hAns]
          cases h : l.all okP with
          | false => rfl
          | true => rw [List.all_eq_true] at h; rw [h p (List.mem_of_getElem? hp)] at hok; cases hok
        have hno := of_decide_eq_false hok
        clear hAns hall hok
        go_wp2
        all_goals first
          | (go_ret; exact ⟨by first | rfl | (rw [hans]; rfl), hB⟩)
          | (exfalso; simp at *; omega)
      | true =>
        have hyes := of_decide_eq_true hok
        have hall' : (l.take (k + 1)).all okP = true := by rw [List.take_add_one, hp]; simp [hall, hok]
        clear hAns hall hok
        obtain ⟨y1, y2, y3, y4⟩ := hyes
        go_wp2
        all_goals first
          | (exfalso; simp at *; omega)
          | skip
        go_roundw
        case rel => exact ⟨k + 1, by omega, by go_num, hall', hB⟩
        case measure => simp [intOf]; omega
    · have hkk : k = l.length := by omega
      subst hkk
      rw [List.take_length] at hall
      rw [hAns] at hall
      clear hk
      go_wp2
      go_ret
      exact ⟨by rw [hall]; rfl, hnx⟩

end Go.Proofs.YtbfanhdofopnnaaGreat
