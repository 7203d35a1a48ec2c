import Derived.Test.YtdhljiediafeoaaEn
set_option linter.unusedSimpArgs false
set_option linter.unusedVariables false
/-! Numbers read from the index. -/
namespace PF
open Go Go.RowKit JR
theorem le8_sum (x : Nat) (hx : x < 18446744073709551616) : x % 256 + 256 * (x / 256 % 256) + 65536 * (x / 65536 % 256) + 16777216 * (x / 16777216 % 256) + 4294967296 * (x / 4294967296 % 256) + 1099511627776 * (x / 1099511627776 % 256) + 281474976710656 * (x / 281474976710656 % 256) + 72057594037927936 * (x / 72057594037927936 % 256) = x := by omega
theorem le4_sum (x : Nat) (hx : x < 4294967296) : x % 256 + 256 * (x / 256 % 256) + 65536 * (x / 65536 % 256) + 16777216 * (x / 16777216 % 256) = x := by omega
end PF
namespace Go.Proofs.Ytdhljiediafeoaa
open Go.RowKit PF JR
theorem f64from (x : Nat) (w : World) : (callFunc 106 #[.int .u64 x]).run Try.prog w = .ok (.value (.float .f64 x)) w := by kernel_rfl
set_option maxHeartbeats 8000000 in
set_option maxRecDepth 100000 in
theorem getU64_c (g o n c : Nat) (b0 b1 b2 b3 b4 b5 b6 b7 : Nat) (h0 : b0 < 256) (h1 : b1 < 256) (h2 : b2 < 256) (h3 : b3 < 256) (h4 : b4 < 256) (h5 : b5 < 256) (h6 : b6 < 256) (h7 : b7 < 256) (w : World) (hn : 8 ≤ n)
    (c0 : w.cell? ⟨g, o, none⟩ = some (.int .u8 b0)) (c1 : w.cell? ⟨g, o + 1, none⟩ = some (.int .u8 b1)) (c2 : w.cell? ⟨g, o + 2, none⟩ = some (.int .u8 b2)) (c3 : w.cell? ⟨g, o + 3, none⟩ = some (.int .u8 b3)) (c4 : w.cell? ⟨g, o + 4, none⟩ = some (.int .u8 b4)) (c5 : w.cell? ⟨g, o + 5, none⟩ = some (.int .u8 b5)) (c6 : w.cell? ⟨g, o + 6, none⟩ = some (.int .u8 b6)) (c7 : w.cell? ⟨g, o + 7, none⟩ = some (.int .u8 b7)) :
    Calls Try.prog 107 #[.agg #[], .slice (some ⟨g, o, none⟩) n c] w fun e w' => e = .returned (.int .u64 ((b0 + 256 * b1 + 65536 * b2 + 16777216 * b3 + 4294967296 * b4 + 1099511627776 * b5 + 281474976710656 * b6 + 72057594037927936 * b7 : Nat) : Int)) ∧ Below w.heap.size w w' := by
  have hb : Below w.heap.size w (w.alloc (.cells #[] 118)) := (Below.refl _ w).alloc (Nat.le_refl _) _
  have hg := World.block_lt_of_cell? w _ c0
  have d0 := (hb.cell hg).trans c0
  have d1 := (hb.cell (World.block_lt_of_cell? w _ c1)).trans c1
  have d2 := (hb.cell (World.block_lt_of_cell? w _ c2)).trans c2
  have d3 := (hb.cell (World.block_lt_of_cell? w _ c3)).trans c3
  have d4 := (hb.cell (World.block_lt_of_cell? w _ c4)).trans c4
  have d5 := (hb.cell (World.block_lt_of_cell? w _ c5)).trans c5
  have d6 := (hb.cell (World.block_lt_of_cell? w _ c6)).trans c6
  have d7 := (hb.cell (World.block_lt_of_cell? w _ c7)).trans c7
  have hv : (((b0 + 256 * b1 + 65536 * b2 + 16777216 * b3 + 4294967296 * b4 + 1099511627776 * b5 + 281474976710656 * b6 + 72057594037927936 * b7 : Nat)) : Int) = (b0 : Int) + (b1 : Int) * 256 + (b2 : Int) * 65536 + (b3 : Int) * 16777216 + (b4 : Int) * 4294967296 + (b5 : Int) * 1099511627776 + (b6 : Int) * 281474976710656 + (b7 : Int) * 72057594037927936 := by
    omega
  have q0 : 0 < n := by omega
  have q1 : (1 : Int) < (n : Int) := by omega
  have q2 : (2 : Int) < (n : Int) := by omega
  have q3 : (3 : Int) < (n : Int) := by omega
  have q4 : (4 : Int) < (n : Int) := by omega
  have q5 : (5 : Int) < (n : Int) := by omega
  have q6 : (6 : Int) < (n : Int) := by omega
  have q7 : (7 : Int) < (n : Int) := by omega
  clear c0 c1 c2 c3 c4 c5 c6 c7 hg
  generalize hW : w.alloc (.cells #[] 118) = W at *
  go_enter Try.func107, Try.ntmps107
  go_upto_region 2 with (fail)
  go_quiet (fail)
  go_wp2
  go_ret
  refine ⟨?_, below_drewN hb _⟩
  simp (disch := omega) only [u64_wrap_id, u64_or8, u64_or16, u64_or24, u64_or32, u64_or40, u64_or48, u64_or56]
  rw [hv]
  rfl
set_option maxHeartbeats 8000000 in
set_option maxRecDepth 100000 in
theorem getU32_c (g o n c : Nat) (b0 b1 b2 b3 : Nat) (h0 : b0 < 256) (h1 : b1 < 256) (h2 : b2 < 256) (h3 : b3 < 256) (w : World) (hn : 4 ≤ n)
    (c0 : w.cell? ⟨g, o, none⟩ = some (.int .u8 b0)) (c1 : w.cell? ⟨g, o + 1, none⟩ = some (.int .u8 b1)) (c2 : w.cell? ⟨g, o + 2, none⟩ = some (.int .u8 b2)) (c3 : w.cell? ⟨g, o + 3, none⟩ = some (.int .u8 b3)) :
    Calls Try.prog 101 #[.agg #[], .slice (some ⟨g, o, none⟩) n c] w fun e w' => e = .returned (.int .u32 ((b0 + 256 * b1 + 65536 * b2 + 16777216 * b3 : Nat) : Int)) ∧ Below w.heap.size w w' := by
  have hb : Below w.heap.size w (w.alloc (.cells #[] 118)) := (Below.refl _ w).alloc (Nat.le_refl _) _
  have d0 := (hb.cell (World.block_lt_of_cell? w _ c0)).trans c0
  have d1 := (hb.cell (World.block_lt_of_cell? w _ c1)).trans c1
  have d2 := (hb.cell (World.block_lt_of_cell? w _ c2)).trans c2
  have d3 := (hb.cell (World.block_lt_of_cell? w _ c3)).trans c3
  have hv : (((b0 + 256 * b1 + 65536 * b2 + 16777216 * b3 : Nat)) : Int) = (b0 : Int) + (b1 : Int) * 256 + (b2 : Int) * 65536 + (b3 : Int) * 16777216 := by
    omega
  have q0 : 0 < n := by omega
  have q1 : (1 : Int) < (n : Int) := by omega
  have q2 : (2 : Int) < (n : Int) := by omega
  have q3 : (3 : Int) < (n : Int) := by omega
  clear c0 c1 c2 c3
  go_enter Try.func101, Try.ntmps101
  go_upto_region 2 with (fail)
  go_quiet (fail)
  go_wp2
  go_ret
  refine ⟨?_, below_drewN hb _⟩
  simp (disch := omega) only [u32_wrap_id, u32_or8, u32_or16, u32_or24]
  rw [hv]
  rfl
/-- a number of one byte -/
theorem readNum_c (g o n c b : Nat) (hb : b < 256) (w : World) (hn : 1 ≤ n) (c0 : w.cell? ⟨g, o, none⟩ = some (.int .u8 b)) :
    Calls Try.prog 105 #[.slice (some ⟨g, o, none⟩) n c, .int .u8 1] w fun e w' => e = .returned (.int .u32 b) ∧ w' = w := by
  have q0 : 0 < n := by omega
  have q1 : (0 : Int) < (n : Int) := by omega
  have hw : IntKind.u32.wrap (b : Int) = (b : Int) := wraps_u32 _ (by omega) (by omega)
  go_enter Try.func105, Try.ntmps105
  go_wp2
  go_ret
  exact ⟨by first | rfl | (rw [hw]; rfl) | go_num, rfl⟩
end Go.Proofs.Ytdhljiediafeoaa
