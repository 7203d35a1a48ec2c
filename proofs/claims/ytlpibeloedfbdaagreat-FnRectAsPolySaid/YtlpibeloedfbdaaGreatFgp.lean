import Derived.Test.YtlpibeloedfbdaaGreatMath
import Derived.Test.YtlpibeloedfbdaaGreatPlane
import Derived.Test.YtlpibeloedfbdaaGreatJr
import Derived.Deep.RegionWith
import Derived.Deep.DeepCutAuto
set_option linter.unusedSimpArgs false
set_option linter.unusedVariables false
namespace PF
open Go
section
variable {P : Program} {w : World} {t : TypeId} {x y : Nat}
@[go_sem] theorem run_fsub (h : (FloatKind.f64.format.sub x y).isSome = true) : (binOp .sub t (.float .f64 x) (.float .f64 y)).run P w = .ok (.float .f64 ((FloatKind.f64.format.sub x y).getD 0)) w := by
  obtain ⟨r, hr⟩ := Option.isSome_iff_exists.1 h
  rw [hr]; exact runSub hr t w
@[go_sem] theorem run_fadd (h : (FloatKind.f64.format.add x y).isSome = true) : (binOp .add t (.float .f64 x) (.float .f64 y)).run P w = .ok (.float .f64 ((FloatKind.f64.format.add x y).getD 0)) w := by
  obtain ⟨r, hr⟩ := Option.isSome_iff_exists.1 h
  rw [hr]; exact runAdd hr t w
@[go_sem] theorem run_fmul (h : (FloatKind.f64.format.mul x y).isSome = true) : (binOp .mul t (.float .f64 x) (.float .f64 y)).run P w = .ok (.float .f64 ((FloatKind.f64.format.mul x y).getD 0)) w := by
  obtain ⟨r, hr⟩ := Option.isSome_iff_exists.1 h
  rw [hr]; exact runMul hr t w
@[go_sem] theorem run_fquo (h : (FloatKind.f64.format.div x y).isSome = true) : (binOp .quo t (.float .f64 x) (.float .f64 y)).run P w = .ok (.float .f64 ((FloatKind.f64.format.div x y).getD 0)) w := by
  obtain ⟨r, hr⟩ := Option.isSome_iff_exists.1 h
  rw [hr]; exact runQuo hr t w
end

theorem subR {x y : Nat} {a b : Int} (hx : Rep x a) (hy : Rep y b) (hb : (a - b).natAbs ≤ 9007199254740992) : ∃ r, FloatKind.f64.format.sub x y = some r ∧ Rep r (a - b) := sub_rep hx hy hb
theorem addR {x y : Nat} {a b : Int} (hx : Rep x a) (hy : Rep y b) (hb : (a + b).natAbs ≤ 9007199254740992) : ∃ r, FloatKind.f64.format.add x y = some r ∧ Rep r (a + b) := add_rep hx hy hb
theorem mulR {x y : Nat} {a b : Int} (hx : Rep x a) (hy : Rep y b) (hb : (a * b).natAbs ≤ 9007199254740992) : ∃ r, FloatKind.f64.format.mul x y = some r ∧ Rep r (a * b) := mul_rep hx hy hb
theorem bmul {a b : Int} (ha : -32768 ≤ a ∧ a ≤ 32768) (hb : -32768 ≤ b ∧ b ≤ 32768) : -1073741824 ≤ a * b ∧ a * b ≤ 1073741824 := by
  have h1 : (a * b).natAbs ≤ 32768 * 32768 := by
    rw [Int.natAbs_mul]; exact Nat.mul_le_mul (by omega) (by omega)
  omega

theorem below_drewN {B : Nat} {a w : World} (h : RowKit.Below B a w) (n : Nat) : RowKit.Below B a (w.drewN n) := ⟨h.os, h.tape, h.output, h.size, h.block⟩

theorem rep0 : Rep 0 0 := fb_rep 0 (by decide)
end PF
namespace JR
open Go Go.RowKit
def allPre (w : World) : List Ent → Prop
  | [] => True
  | e :: es => e.pre w ∧ allPre w es
theorem allPre_of {w : World} : ∀ {l : List Ent}, allPre w l → ∀ e ∈ l, e.pre w
  | [], _, _, h => by cases h
  | _ :: _, ⟨h1, h2⟩, e, h => by
    rcases List.mem_cons.1 h with rfl | h
    · exact h1
    · exact allPre_of h2 e h
def oldFree (b i : Nat) : Nat → List Ent → Prop
  | _, [] => True
  | j, e :: es => (j = i ∨ b ∉ e.old) ∧ oldFree b i (j + 1) es
theorem oldFree_get {b i : Nat} : ∀ (l : List Ent) (k : Nat), oldFree b i k l → ∀ (j : Nat) (e : Ent), l[j]? = some e → k + j ≠ i → b ∉ e.old := by
  intro l
  induction l with
  | nil => intro k _ j e he; simp at he
  | cons x l ih =>
    intro k h j e he hne
    cases j with
    | zero =>
      simp at he; subst he
      rcases h.1 with h1 | h1
      · exact absurd h1 (by omega)
      · exact h1
    | succ j => exact ih (k + 1) h.2 j e (by simpa using he) (by omega)
theorem oldFree_of {b i : Nat} {l : List Ent} (h : oldFree b i 0 l) : ∀ (j : Nat) (e : Ent), l[j]? = some e → j ≠ i → b ∉ e.old :=
  fun j e he hne => oldFree_get l 0 h j e he (by omega)
def oldLt (B : Nat) : List Ent → Prop
  | [] => True
  | e :: es => (∀ x ∈ e.old, x < B) ∧ oldLt B es
theorem oldLt_of {B : Nat} : ∀ {l : List Ent}, oldLt B l → ∀ e ∈ l, ∀ x ∈ e.old, x < B
  | [], _, _, h => by cases h
  | _ :: _, ⟨h1, h2⟩, e, h => by
    rcases List.mem_cons.1 h with rfl | h
    · exact h1
    · exact oldLt_of h2 e h
theorem Keep.belowX {X : List Nat} {B : Nat} {w w0 u : World} (h : Keep X w0 u) (hB : Below B w w0) (hs : B ≤ w0.heap.size) (hX : ∀ x ∈ X, B ≤ x) : Below B w u :=
  hB.trans ⟨h.os, h.tape, h.output, h.size, fun k hk => h.block k (by omega) (fun hm => by have := hX k hm; omega)⟩
theorem allocAt {w : World} {x : Obj} {k : Nat} (h : k = w.heap.size) : (w.alloc x).heap[k]? = some x := by
  subst h; exact alloc_get w x
section
variable {P : Program} {ops : Array Oper} {Q : Exit → Act → World → Prop} {G : World → Prop} {B0 : Nat} {plan : List Ent} {a0 : Act} {i : Nat} {o : Oper} {ns : List Need}
/-- a struct stored into a whole block that was there -/
theorem OpOk.turnRow {ty : TypeId} {b : Nat} {x y : Operand} {T : TypeId} {cs0 cells : Array Value} (hop : o.op = .store ty x y) (hg : o.guard = none) (hb : b < B0)
    (hsl : (plan.map (·.sl)).zipIdx.all (fun (sl, j) => j == i || sl.all fun t' => (dep o).any fun k' => ((ops.toList[k']?).bind (·.dst) == some t') && (plan.map (·.news)).getD k' false) = true)
    (hold : ∀ j e, plan[j]? = some e → j ≠ i → b ∉ e.old)
    (hi : (P.info? ty).map (·.size) = some cells.size) (hs : cs0.size = cells.size) (h1 : cells.all (·.oneCell') = true)
    (hf : ∀ a w, G w → facts plan a0 a w ns → a.eval x = .pointer (some ⟨b, 0, none⟩) ∧ a.eval y = .agg cells ∧ w.heap[b]? = some (.cells cs0 T (0, 0)))
    (hGs : ∀ w cs, G w → G (w.setRow b cs)) :
    OpOk P ops Q G B0 plan a0 i o (.turn b cs0 (· = cells) T) ns :=
  OpOk.turn hg hb hsl hold (fun a w hG hff => by
    obtain ⟨h1', h2, h3⟩ := hf a w hG hff
    exact ⟨_, cs0, cells, h3, run_store_row ty x y hop b cells h1' h2 T cs0 h3 hi hs h1, .inl rfl, rfl⟩) hGs
end
end JR
