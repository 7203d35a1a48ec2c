import Derived.Test.YtlpibeloedfbdaaGreatRows
import Derived.Test.YtlpibeloedfbdaaGreatFgo
import Derived.Deep.RegionWith
set_option linter.unusedSimpArgs false
set_option linter.unusedVariables false
namespace Go.Proofs.YtlpibeloedfbdaaGreat
open Go.RowKit PF

theorem mixed : Tryz.prog.follows .mixedOrders = true := by kernel_rfl

theorem run_from (n : Int) (w : World) : (callFunc 120 #[.int .u64 n]).run Tryz.prog w = .ok (.value (.float .f64 n.toNat)) w := by
  rw [run_callFunc_extern Tryz.func120 (by kernel_rfl) (by kernel_rfl) (by kernel_rfl) (e := Extern.MathFloatBits.float64frombits) (by kernel_rfl)]
  rfl

theorem run_bits (n : Nat) (w : World) : (callFunc 70 #[.float .f64 n]).run Tryz.prog w = .ok (.value (.int .u64 n)) w := by
  rw [run_callFunc_extern Tryz.func70 (by kernel_rfl) (by kernel_rfl) (by kernel_rfl) (e := Extern.MathFloatBits.float64bits) (by kernel_rfl)]
  rfl

theorem inf_c (w : World) : Calls Tryz.prog 112 #[.int .i64 1] w fun e w' => e = .returned (fl 9218868437227405312) ∧ w' = w := by
  have hf := run_from
  go_enter Tryz.func112, Tryz.ntmps112
  go_wp2
  go_ret
  exact ⟨rfl, rfl⟩

theorem ninf_c (w : World) : Calls Tryz.prog 112 #[.int .i64 (-1)] w fun e w' => e = .returned (fl 18442240474082181120) ∧ w' = w := by
  have hf := run_from
  go_enter Tryz.func112, Tryz.ntmps112
  go_wp2
  go_ret
  exact ⟨rfl, rfl⟩

theorem isnan_c (x : Nat) (hx : FloatKind.f64.format.order x x = some .eq) (w : World) : Calls Tryz.prog 117 #[fl x] w fun e w' => e = .returned (.bool false) ∧ w' = w := by
  go_enter Tryz.func117, Tryz.ntmps117
  go_wp2
  go_ret
  exact ⟨rfl, rfl⟩

theorem copysign_c (w : World) : Calls Tryz.prog 119 #[fl 1, fl 9218868437227405312] w fun e w' => e = .returned (fl 1) ∧ w' = w := by
  have hf := run_from
  have hb := run_bits
  go_enter Tryz.func119, Tryz.ntmps119
  go_wp2
  go_ret
  exact ⟨rfl, rfl⟩

theorem inf_inf : FloatKind.f64.format.order 9218868437227405312 9218868437227405312 = some .eq := by kernel_rfl

theorem next_zero (x : Nat) (h0 : FloatKind.f64.format.order x x = some .eq) (h1 : FloatKind.f64.format.order x 9218868437227405312 = some .lt) (h2 : FloatKind.f64.format.order x 0 = some .eq) (w : World) :
    Calls Tryz.prog 111 #[fl x, fl 9218868437227405312] w fun e w' => e = .returned (fl 1) ∧ w' = w := by
  have hf := run_from
  have hi := inf_inf
  go_enter Tryz.func111, Tryz.ntmps111
  go_wp2_with (first
    | (go_at_call_of 117 (fl x); refine (isnan_c x h0 _).mono ?_; rintro e w' ⟨rfl, rfl⟩)
    | (go_at_call_of 117 (fl 9218868437227405312); refine (isnan_c _ inf_inf _).mono ?_; rintro e w' ⟨rfl, rfl⟩)
    | (go_at_call 119; refine (copysign_c _).mono ?_; rintro e w' ⟨rfl, rfl⟩))
  go_ret
  exact ⟨rfl, rfl⟩

theorem next_pos (x : Nat) (hx : x < 9218868437227405311) (h0 : FloatKind.f64.format.order x x = some .eq) (h1 : FloatKind.f64.format.order x 9218868437227405312 = some .lt) (h1' : FloatKind.f64.format.order 9218868437227405312 x = some .gt) (h2 : FloatKind.f64.format.order x 0 = some .gt) (w : World) :
    Calls Tryz.prog 111 #[fl x, fl 9218868437227405312] w fun e w' => e = .returned (fl (x + 1)) ∧ w' = w := by
  have hf := run_from
  have hb := run_bits
  have hi := inf_inf
  go_enter Tryz.func111, Tryz.ntmps111
  go_wp2_with (first
    | (go_at_call_of 117 (fl x); refine (isnan_c x h0 _).mono ?_; rintro e w' ⟨rfl, rfl⟩)
    | (go_at_call_of 117 (fl 9218868437227405312); refine (isnan_c _ inf_inf _).mono ?_; rintro e w' ⟨rfl, rfl⟩))
  go_ret
  exact ⟨rfl, rfl⟩

theorem next_neg (x : Nat) (hx : x < 18446744073709551616) (hx0 : 0 < x) (h0 : FloatKind.f64.format.order x x = some .eq) (h1 : FloatKind.f64.format.order x 9218868437227405312 = some .lt) (h1' : FloatKind.f64.format.order 9218868437227405312 x = some .gt) (h2 : FloatKind.f64.format.order x 0 = some .lt) (w : World) :
    Calls Tryz.prog 111 #[fl x, fl 9218868437227405312] w fun e w' => e = .returned (fl (x - 1)) ∧ w' = w := by
  have hf := run_from
  have hb := run_bits
  have hi := inf_inf
  go_enter Tryz.func111, Tryz.ntmps111
  go_wp2_with (first
    | (go_at_call_of 117 (fl x); refine (isnan_c x h0 _).mono ?_; rintro e w' ⟨rfl, rfl⟩)
    | (go_at_call_of 117 (fl 9218868437227405312); refine (isnan_c _ inf_inf _).mono ?_; rintro e w' ⟨rfl, rfl⟩))
  go_ret
  exact ⟨rfl, rfl⟩

theorem nextafter_c {x : Nat} {n : Int} (hx : Rep x n) (hn : n.natAbs ≤ 1048576) (w : World) :
    Calls Tryz.prog 111 #[fl x, fl 9218868437227405312] w fun e w' => ∃ x', e = .returned (fl x') ∧ Nxt x' n ∧ w' = w := by
  have z : Rep 0 0 := fb_rep 0 (by decide)
  have o0 := oR hx hx
  have oz := oR hx z
  have oi : FloatKind.f64.format.order x 9218868437227405312 = some .lt := order_inf_right (s := false) hx.fin
  have oi' : FloatKind.f64.format.order 9218868437227405312 x = some .gt := order_inf_left (s := false) hx.fin
  have h0 : FloatKind.f64.format.order x x = some .eq := by rw [o0]; exact cmp_eq.2 rfl
  rcases Int.lt_trichotomy n 0 with h | h | h
  · have ho : FloatKind.f64.format.order x 0 = some .lt := by rw [oz]; exact cmp_lt.2 h
    have hlo : 0 < x := by
      rcases Nat.eq_zero_or_pos x with h' | h'
      · exfalso
        subst h'
        have e : some (compare n 0) = some Ordering.lt := by rw [← oz]; exact ho
        have : FloatKind.f64.format.order 0 0 = some .eq := by kernel_rfl
        rw [this] at ho; cases ho
      · exact h'
    refine (next_neg x hx.fin.1 hlo h0 oi oi' ho w).mono fun e w' he => ?_
    exact ⟨_, he.1, nxt_neg hx h (by omega), he.2⟩
  · subst h
    have ho : FloatKind.f64.format.order x 0 = some .eq := by rw [oz]; exact cmp_eq.2 rfl
    refine (next_zero x h0 oi ho w).mono fun e w' he => ?_
    exact ⟨_, he.1, nxt_zero, he.2⟩
  · have ho : FloatKind.f64.format.order x 0 = some .gt := by rw [oz]; exact cmp_gt.2 h
    have hp := nxt_pos hx h (by omega)
    have hlt : x < 9218868437227405311 := by
      have h1 := hp.fin.2
      have h2 := hp.fin.1
      have h3 := hx.fin.2
      have h4 := hp.lo
      have h5 := sgn_sign (show sgn (x / 9223372036854775808 % 2 == 1) (sv (x % 9223372036854775808)) = n * U from hx.val) (by omega)
      have h6 := fin_word hx.fin
      have h7 : ¬ n < 0 := by omega
      rw [h5, word_def] at h6
      simp [h7] at h6
      omega
    refine (next_pos x hlt h0 oi oi' ho w).mono fun e w' he => ?_
    exact ⟨_, he.1, hp, he.2⟩
end Go.Proofs.YtlpibeloedfbdaaGreat
