import Derived.Test.YtlpibeloedfbdaaGreatQF
import Derived.WalkKit
import Derived.WalkSpells
import Derived.WalkLawsBesides
import Derived.Deep.QuietTactic
import Derived.BigQuiet
set_option linter.unusedSimpArgs false
set_option linter.unusedVariables false
namespace PF
open Go
section
variable {P : Program} {w : World} {a : Addr} {m : Mode}
@[go_sem] theorem run_store_float (k : FloatKind) (n : Nat) : (store a (.float k n) m).run P w = stored P w a (.float k n) m := run_store P w a _ m rfl
@[go_sem] theorem run_equalIn_float (d : Nat) (t : TypeId) (k k' : FloatKind) (x y : Nat) (h : P.underlying t = some (.float k')) : (Op.equalIn (d + 1) t (.float k x) (.float k y)).run P w = .ok (k.format.order x y == some .eq) w := by
  simp [Op.equalIn, run_underlying h, Op.floatEq]
end

@[go_sem] theorem icmp_gt {a b : Int} : compare a b = Ordering.gt ↔ b < a := by
  have := @cmp_gt a b
  simpa using this
@[go_sem] theorem icmp_lt {a b : Int} : compare a b = Ordering.lt ↔ a < b := by
  have := @cmp_lt a b
  simpa using this

@[go_sem] theorem bcmp_gt {a b : Int} : (compare a b == Ordering.gt) = decide (b < a) := by
  rw [Bool.eq_iff_iff, beq_iff_eq, icmp_gt, decide_eq_true_iff]
@[go_sem] theorem bcmp_lt {a b : Int} : (compare a b == Ordering.lt) = decide (a < b) := by
  rw [Bool.eq_iff_iff, beq_iff_eq, icmp_lt, decide_eq_true_iff]
@[go_sem] theorem bcmp_eq {a b : Int} : (compare a b == Ordering.eq) = decide (a = b) := by
  rw [Bool.eq_iff_iff, beq_iff_eq, decide_eq_true_iff]
  simp


abbrev fl (x : Nat) : Value := .float .f64 x

theorem oR {x y : Nat} {a b : Int} (hx : Rep x a) (hy : Rep y b) : FloatKind.f64.format.order x y = some (compare a b) := order_rep hx hy

theorem runSub {P : Program} {x y r : Nat} (h : Ieee.double.sub x y = some r) (t : TypeId) (w : World) : (binOp .sub t (.float .f64 x) (.float .f64 y)).run P w = .ok (.float .f64 r) w := run_float_arith w .sub t .f64 x y r h
theorem runAdd {P : Program} {x y r : Nat} (h : Ieee.double.add x y = some r) (t : TypeId) (w : World) : (binOp .add t (.float .f64 x) (.float .f64 y)).run P w = .ok (.float .f64 r) w := run_float_arith w .add t .f64 x y r h
theorem runMul {P : Program} {x y r : Nat} (h : Ieee.double.mul x y = some r) (t : TypeId) (w : World) : (binOp .mul t (.float .f64 x) (.float .f64 y)).run P w = .ok (.float .f64 r) w := run_float_arith w .mul t .f64 x y r h
theorem runQuo {P : Program} {x y r : Nat} (h : Ieee.double.div x y = some r) (t : TypeId) (w : World) : (binOp .quo t (.float .f64 x) (.float .f64 y)).run P w = .ok (.float .f64 r) w := run_float_arith w .quo t .f64 x y r h

/-- the word that Go's tape gives where a quotient is no number -/
def nanWord (x y : Nat) (w : World) : Nat := (Question.nanBits .f64 x y).cut (w.tape w.drawn (.nanBits .f64 x y))

theorem runQuoNan {P : Program} {x y : Nat} (h : Ieee.double.div x y = none) (t : TypeId) (w : World) :
    (binOp .quo t (.float .f64 x) (.float .f64 y)).run P w = .ok (.float .f64 (nanWord x y w)) w.drew := by
  have hd : FloatKind.f64.format.div x y = none := h
  simp [binOp, Op.floatArith, hd, Question.forced, nanWord]

theorem nanWord_nan (x y : Nat) (w : World) : Nan (nanWord x y w) := by
  have h : ∃ s f, Ieee.double.read (nanWord x y w) = .nan s f := by
    unfold nanWord Question.cut
    generalize w.tape w.drawn (Question.nanBits .f64 x y) = t
    have e1 : 2 ^ 63 = 9223372036854775808 := rfl
    have e2 : 2 ^ 52 - 1 = 4503599627370495 := rfl
    simp only [e1, e2]
    have hm : t / 2 % 4503599627370495 < 4503599627370495 := Nat.mod_lt _ (by omega)
    have hs : t % 2 < 2 := Nat.mod_lt _ (by omega)
    have hk : (t % 2 * 9223372036854775808 + 9218868437227405312 + 1 + t / 2 % 4503599627370495) % 9223372036854775808 = 9218868437227405313 + t / 2 % 4503599627370495 := by
      generalize t / 2 % 4503599627370495 = m at *
      generalize t % 2 = s at *
      omega
    rw [read_def]
    have e3 : (0x7ff0000000000000 : Nat) = 9218868437227405312 := rfl
    rw [hk, if_neg (by omega), if_neg (by omega), if_neg (by omega)]
    exact ⟨_, _, rfl⟩
  obtain ⟨s, f, h⟩ := h
  exact nan_of_read h

theorem quo_fin {x : Nat} {a b : Int} (h : Quo x a b) (hb : b ≠ 0) (ha : a.natAbs ≤ 9007199254740992) : Fin x := by
  obtain ⟨s, q, h1, h2, _⟩ := h
  rw [h1]
  exact word_fin (quo_lt (by omega) ha h2)

theorem nxt_gt {x y : Nat} {n b : Int} (hx : Nxt x n) (hy : Rep y b) (h : b ≤ n) : FloatKind.f64.format.order x y = some .gt := by
  have : FloatKind.f64.format.order x y = _ := order_nxt hx hy
  rw [this, if_neg (by omega)]
theorem nxt_lt {x y : Nat} {n b : Int} (hx : Nxt x n) (hy : Rep y b) (h : n < b) : FloatKind.f64.format.order x y = some .lt := by
  have : FloatKind.f64.format.order x y = _ := order_nxt hx hy
  rw [this, if_pos h]

theorem quo_ne {w w' : Nat} {a b c d : Int} (h : Quo w a b) (h' : Quo w' c d) (hb : b ≠ 0) (hd : d ≠ 0)
    (ha : a.natAbs < 8388608) (hc : c.natAbs < 8388608) (hbb : b.natAbs < 8388608) (hdb : d.natAbs < 8388608) (hne : a * d ≠ c * b) :
    (FloatKind.f64.format.order w w' == some .eq) = false := by
  have : FloatKind.f64.format.order w w' = _ := quo_order h h' hb hd ha hc hbb hdb
  rw [this, beq_eq_false_iff_ne]
  split
  · exact fun h => hne (cmp_eq.1 h)
  · exact fun h => hne (cmp_eq.1 h).symm
theorem quo_eq {w w' : Nat} {a b c d : Int} (h : Quo w a b) (h' : Quo w' c d) (hb : b ≠ 0) (hd : d ≠ 0)
    (ha : a.natAbs < 8388608) (hc : c.natAbs < 8388608) (hbb : b.natAbs < 8388608) (hdb : d.natAbs < 8388608) (he : a * d = c * b) :
    FloatKind.f64.format.order w w' = some .eq := by
  have : FloatKind.f64.format.order w w' = _ := quo_order h h' hb hd ha hc hbb hdb
  rw [this, he]
  split <;> exact cmp_eq.2 rfl
theorem quo_ge {w w' : Nat} {a b c d : Int} (h : Quo w a b) (h' : Quo w' c d) (hp : 0 < b * d)
    (ha : a.natAbs < 8388608) (hc : c.natAbs < 8388608) (hbb : b.natAbs < 8388608) (hdb : d.natAbs < 8388608) (hge : c * b ≤ a * d) :
    FloatKind.f64.format.order w w' = some .gt ∨ FloatKind.f64.format.order w w' = some .eq := by
  have hb : b ≠ 0 := fun h => by rw [h, Int.zero_mul] at hp; omega
  have hd : d ≠ 0 := fun h => by rw [h, Int.mul_zero] at hp; omega
  have : FloatKind.f64.format.order w w' = _ := quo_order h h' hb hd ha hc hbb hdb
  rw [this, if_pos hp]
  exact cmp_ge.2 hge
theorem quo_lt' {w w' : Nat} {a b c d : Int} (h : Quo w a b) (h' : Quo w' c d) (hp : 0 < b * d)
    (ha : a.natAbs < 8388608) (hc : c.natAbs < 8388608) (hbb : b.natAbs < 8388608) (hdb : d.natAbs < 8388608) (hlt : a * d < c * b) :
    FloatKind.f64.format.order w w' = some .lt := by
  have hb : b ≠ 0 := fun h => by rw [h, Int.zero_mul] at hp; omega
  have hd : d ≠ 0 := fun h => by rw [h, Int.mul_zero] at hp; omega
  have : FloatKind.f64.format.order w w' = _ := quo_order h h' hb hd ha hc hbb hdb
  rw [this, if_pos hp]
  exact cmp_lt.2 hlt
theorem tiny_gt {w w' : Nat} {c d : Int} (f : Fin w) (h : (V w).natAbs * 1048576 ≤ U) (h' : Quo w' c d) (hcd : c * d < 0)
    (hcb : c.natAbs < 65536) (hdb : d.natAbs < 65536) : FloatKind.f64.format.order w w' = some .gt := by
  have hc : c ≠ 0 := fun h => by rw [h, Int.zero_mul] at hcd; omega
  have hd : d ≠ 0 := fun h => by rw [h, Int.mul_zero] at hcd; omega
  have : FloatKind.f64.format.order w w' = _ := order_tiny f h h' hc hd hcb hdb
  rw [this, if_neg (by omega)]
theorem tiny_lt {w w' : Nat} {c d : Int} (f : Fin w) (h : (V w).natAbs * 1048576 ≤ U) (h' : Quo w' c d) (hcd : 0 < c * d)
    (hcb : c.natAbs < 65536) (hdb : d.natAbs < 65536) : FloatKind.f64.format.order w w' = some .lt := by
  have hc : c ≠ 0 := fun h => by rw [h, Int.zero_mul] at hcd; omega
  have hd : d ≠ 0 := fun h => by rw [h, Int.mul_zero] at hcd; omega
  have : FloatKind.f64.format.order w w' = _ := order_tiny f h h' hc hd hcb hdb
  rw [this, if_pos hcd]

theorem cellAt {w : World} {b : Nat} {cs : Array Value} {T : TypeId} (h : w.heap[b]? = some (.cells cs T (0, 0))) (o : Nat) : w.cell? ⟨b, o, none⟩ = cs[o]? := by
  unfold World.cell?
  simp [h]
theorem frozenAt {w : World} {b : Nat} {cs : Array Value} {T : TypeId} (h : w.heap[b]? = some (.cells cs T (0, 0))) (o : Nat) : w.frozen? ⟨b, o, none⟩ = false := by
  unfold World.frozen?
  simp [h]
end PF
