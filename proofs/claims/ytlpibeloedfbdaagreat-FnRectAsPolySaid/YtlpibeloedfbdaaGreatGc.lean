import Derived.Test.YtlpibeloedfbdaaGreatQG
import Derived.Test.YtlpibeloedfbdaaGreatPt
set_option linter.unusedSimpArgs false
set_option linter.unusedVariables false
/-! A point in a ring: turned. -/
namespace PF

section
variable {Ax Ay Bx By Px Py a b c d : Int}
end
/-- what is told of each edge by its two ends tells nothing of the ring -/
theorem tele {l m : List (Int × Int)} {p p' : Int × Int} (q : Int × Int → Bool) (h0 : 0 < l.length) (h : ∀ k, k < l.length → rin m p' k = (rin l p k != (q (at' l k) != q (nxp l k)))) : xrs m p' l.length = xrs l p l.length := by
  have key : ∀ k, k < l.length → xrs m p' k = (xrs l p k != (q (at' l 0) != q (at' l k))) := by
    intro k
    induction k with
    | zero => intro _; simp [xrs]
    | succ k ih =>
      intro hk
      rw [xrs, xrs, ih (by omega), h k (by omega), nxp_mid hk]
      cases q (at' l 0) <;> cases q (at' l k) <;> cases q (at' l (k + 1)) <;> cases xrs l p k <;> cases rin l p k <;> rfl
  obtain ⟨n, hn⟩ : ∃ n, l.length = n + 1 := ⟨l.length - 1, by omega⟩
  rw [hn, xrs, xrs, key n (by omega), h n (by omega), nxp_end hn.symm]
  cases q (at' l 0) <;> cases q (at' l n) <;> cases xrs l p n <;> cases rin l p n <;> rfl
theorem aon_ron {l : List (Int × Int)} {p : Int × Int} : ∀ n, aon l p n = false → ∀ k, k < n → ron l p k = false := by
  intro n
  induction n with
  | zero => intro _ k hk; omega
  | succ n ih =>
    intro h k hk
    rw [aon, Bool.or_eq_false_iff] at h
    rcases Nat.lt_or_ge k n with h1 | h1
    · exact ih h.1 k h1
    · obtain rfl : k = n := by omega
      exact h.2
/-- a map of the plane that keeps which rings hold which points -/
def Good (f : Int × Int → Int × Int) : Prop := ∀ (l : List (Int × Int)) (p : Int × Int), 0 < l.length → aon (l.map f) (f p) l.length = aon l p l.length ∧ (aon l p l.length = false → xrs (l.map f) (f p) l.length = xrs l p l.length)
theorem Good.id : Good (fun p => p) := fun l p _ => by simp
end PF
