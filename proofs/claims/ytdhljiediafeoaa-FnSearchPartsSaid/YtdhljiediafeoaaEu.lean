import Derived.Test.YtdhljiediafeoaaFgp
import Derived.Test.YtdhljiediafeoaaBlk
import Derived.Test.YtdhljiediafeoaaVt
import Derived.Test.YtdhljiediafeoaaJb
import Derived.Laws.Externs
import Derived.StillTailTactics
import Derived.Lib.EndianBits
set_option linter.unusedSimpArgs false
set_option linter.unusedVariables false
/-! The bytes of the index, exactly: numbers laid down, read, appended. -/
namespace JR
structure StopN (p : Prop) : Prop where out : p
end JR
namespace PF
open Go Go.RowKit JR
/-- a byte -/
def byv (b : Nat) : Value := .int .u8 b
def le4 (x : Nat) : List Nat := [x % 256, x / 256 % 256, x / 65536 % 256, x / 16777216 % 256]
def le8 (x : Nat) : List Nat := [x % 256, x / 256 % 256, x / 65536 % 256, x / 16777216 % 256, x / 4294967296 % 256, x / 1099511627776 % 256, x / 281474976710656 % 256, x / 72057594037927936 % 256]
theorem byv_one (bs : List Nat) : ∀ u ∈ bs.map byv, u.oneCell' = true := by
  intro u hu
  rw [List.mem_map] at hu
  obtain ⟨b, -, rfl⟩ := hu
  rfl
/-- one block changed -/
structure Rw (w u : World) (R : Nat) (cs : Array Value) (T : TypeId) : Prop where
  row : u.heap[R]? = some (.cells cs T (0, 0))
  kp : Keep [R] w u
theorem Rw.refl {w : World} {R : Nat} {cs : Array Value} {T : TypeId} (h : w.heap[R]? = some (.cells cs T (0, 0))) : Rw w w R cs T := ⟨h, Keep.refl _ _⟩
theorem Rw.set {w u : World} {R : Nat} {cs : Array Value} {T : TypeId} (h : Rw w u R cs T) (o : Nat) (v : Value) : Rw w (u.setCell ⟨R, o, none⟩ v) R (cs.setIfInBounds o v) T := by
  rw [setCell_row h.row]
  exact ⟨setRow_same h.row, Keep.setRow h.kp (.inr (by simp))⟩
theorem Rw.ext {w u u' : World} {R : Nat} {cs : Array Value} {T : TypeId} (h : Rw w u R cs T) (e : Below u.heap.size u u') : Rw w u' R cs T :=
  ⟨(e.block _ (lt_of_some h.row)).trans h.row, Keep.ext e h.kp⟩
theorem Rw.below {w u : World} {R base : Nat} {cs : Array Value} {T : TypeId} (h : Rw w u R cs T) (hs : base ≤ w.heap.size) (hR : base ≤ R) : Below base w u :=
  Keep.belowX h.kp (Below.refl base w) hs (by intro x hx; simp at hx; omega)
end PF
namespace Go.Proofs.Ytdhljiediafeoaa
open Go.RowKit PF JR

theorem numBytes_c (n : Nat) (hn : n ≤ 255) (w : World) : Calls Try.prog 55 #[.int .u32 n] w fun e w' => e = .returned (.int .u8 1) ∧ w' = w := by
  have h : (n : Int) ≤ 255 := by omega
  have h' := decide_eq_true h
  go_enter Try.func55, Try.ntmps55
  go_wp2
  go_ret
  exact ⟨rfl, rfl⟩
theorem infoBy : (Try.prog.info? 5).map (fun i => (i.zero, i.size, i.bytes)) = some (some (.int .u8 0), 1, 1) := by kernel_rfl
theorem f64bits (x : Nat) (w : World) : (callFunc 67 #[.float .f64 x]).run Try.prog w = .ok (.value (.int .u64 x)) w := by kernel_rfl
/-- a row of bytes of the call's own -/
def Bys (w : World) (base : Nat) (v : Value) (bs : List Nat) : Prop := w.ownsRow base 5 1 v bs.length (bs.map byv)
theorem Bys.below {w w' : World} {base : Nat} {v : Value} {bs : List Nat} (h : Bys w base v bs) (hb : Below w.heap.size w w') : Bys w' base v bs := h.kept (Ext.grown hb none) (own_none _)
theorem Bys.alloc {w : World} {base : Nat} {v : Value} {bs : List Nat} (h : Bys w base v bs) (o : Obj) : Bys (w.alloc o) base v bs := World.ownsRow.alloc h o
theorem Bys.rw {w u : World} {b base : Nat} {T : TypeId} {cs : Array Value} {v : Value} {bs : List Nat} (h : Rw w u b cs T) (hv : Bys w base v bs) (hne : v.ownBlock ≠ some b) : Bys u base v bs :=
  hv.kept (w' := u) (row := some b) ⟨h.kp.os, h.kp.tape, h.kp.output, h.kp.size, fun k hk hne => h.kp.block k hk (by intro hm; simp at hm; exact hne (by rw [hm]))⟩ (.inr hne)

set_option maxRecDepth 100000 in
set_option maxHeartbeats 4000000 in
theorem putU64_c (x : Nat) (hx : x < 18446744073709551616) (b : Nat) (w : World) (x0 x1 x2 x3 x4 x5 x6 x7 : Value) (T : TypeId) (hb : w.heap[b]? = some (.cells #[x0, x1, x2, x3, x4, x5, x6, x7] T (0, 0))) :
    Calls Try.prog 66 #[.agg #[], .slice (some ⟨b, 0, none⟩) 8 8, .int .u64 x] w fun e w' => e = .returned (.tuple #[]) ∧ Rw w w' b ((le8 x).map byv).toArray T := by
  have hr := (Rw.refl hb).ext ((Below.refl _ w).alloc (Nat.le_refl _) (.cells #[] 118))
  have c0 := cellAt hr.row 0
  have c1 := cellAt hr.row 1
  have c2 := cellAt hr.row 2
  have c3 := cellAt hr.row 3
  have c4 := cellAt hr.row 4
  have c5 := cellAt hr.row 5
  have c6 := cellAt hr.row 6
  have c7 := cellAt hr.row 7
  have ff := fun o => frozenAt hr.row o
  simp only [List.getElem?_toArray, List.getElem?_cons_zero, List.getElem?_cons_succ] at c0 c1 c2 c3 c4 c5 c6 c7
  clear hb
  go_enter Try.func66, Try.ntmps66
  go_wp2
  go_end0
  refine ⟨rfl, ?_⟩
  have h := (((((((hr.set 0 (.int .u8 ((x : Int) % 256))).set 1 (.int .u8 ((x : Int) / 256 % 256))).set 2 (.int .u8 ((x : Int) / 65536 % 256))).set 3 (.int .u8 ((x : Int) / 16777216 % 256))).set 4 (.int .u8 ((x : Int) / 4294967296 % 256))).set 5 (.int .u8 ((x : Int) / 1099511627776 % 256))).set 6 (.int .u8 ((x : Int) / 281474976710656 % 256))).set 7 (.int .u8 ((x : Int) / 72057594037927936))
  have e : ((le8 x).map byv).toArray = #[.int .u8 ((x : Int) % 256), .int .u8 ((x : Int) / 256 % 256), .int .u8 ((x : Int) / 65536 % 256), .int .u8 ((x : Int) / 16777216 % 256), .int .u8 ((x : Int) / 4294967296 % 256), .int .u8 ((x : Int) / 1099511627776 % 256), .int .u8 ((x : Int) / 281474976710656 % 256), .int .u8 ((x : Int) / 72057594037927936)] := by
    have e7 : ((x / 72057594037927936 % 256 : Nat) : Int) = (x : Int) / 72057594037927936 := by omega
    simp [le8, byv]
    omega
  rw [e]
  simpa [Array.setIfInBounds] using h

set_option maxRecDepth 100000 in
set_option maxHeartbeats 4000000 in
theorem appendFloat_c (x base : Nat) (hx : x < 18446744073709551616) (v : Value) (bs : List Nat) (w : World) (hv : Bys w base v bs) (hn : bs.length ≤ 100000) (hbs : base ≤ w.heap.size) :
    Calls Try.prog 61 #[v, fl x] w fun e w' => ∃ v', e = .returned v' ∧ Bys w' base v' (bs ++ le8 x) ∧ Below base w w' := by
  have hf := f64bits
  have hlt : ∀ g, v.ownBlock = some g → g < w.heap.size := fun g hg => (hv.lt g hg).2
  have hlo : ∀ g, v.ownBlock = some g → base ≤ g := fun g hg => (hv.lt g hg).1
  have hb0 := heap_alloc_new w (.cells #[.int .u8 0, .int .u8 0, .int .u8 0, .int .u8 0, .int .u8 0, .int .u8 0, .int .u8 0, .int .u8 0] 141)
  go_enter Try.func61, Try.ntmps61
  go_wp2
  go_still_tail 4, (by kernel_rfl)
  change wpList _ _ _ _ _ (w.alloc (.cells #[.int .u8 0, .int .u8 0, .int .u8 0, .int .u8 0, .int .u8 0, .int .u8 0, .int .u8 0, .int .u8 0] 141)).drew
  have hb1 : (w.alloc (.cells #[.int .u8 0, .int .u8 0, .int .u8 0, .int .u8 0, .int .u8 0, .int .u8 0, .int .u8 0, .int .u8 0] 141)).drew.heap[w.heap.size]? = _ := hb0
  have hv1 : Bys (w.alloc (.cells #[.int .u8 0, .int .u8 0, .int .u8 0, .int .u8 0, .int .u8 0, .int .u8 0, .int .u8 0, .int .u8 0] 141)).drew base v bs :=
    (hv.alloc _).kept ⟨rfl, rfl, rfl, Nat.le_refl _, fun _ _ _ => rfl⟩ (own_none _)
  have hB1 : Below base w (w.alloc (.cells #[.int .u8 0, .int .u8 0, .int .u8 0, .int .u8 0, .int .u8 0, .int .u8 0, .int .u8 0, .int .u8 0] 141)).drew := ((Below.refl base w).alloc hbs _).drew
  have hpu := putU64_c x hx w.heap.size _ _ _ _ _ _ _ _ _ _ hb1
  have hsz : (w.alloc (.cells #[.int .u8 0, .int .u8 0, .int .u8 0, .int .u8 0, .int .u8 0, .int .u8 0, .int .u8 0, .int .u8 0] 141)).drew.heap.size = w.heap.size + 1 := by simp
  generalize (w.alloc (.cells #[.int .u8 0, .int .u8 0, .int .u8 0, .int .u8 0, .int .u8 0, .int .u8 0, .int .u8 0, .int .u8 0] 141)).drew = w1 at *
  clear hb0 hb1 hx
  go_wp2_with (go_at_call 66; refine JR.StopN.out ?_)
  refine ⟨?_⟩
  refine hpu.mono ?_
  rintro e w2 ⟨rfl, hc⟩
  have hv2 := hv1.rw hc (fun h => by have := hlt _ h; omega)
  have c3 := hc.row
  have c4 := hc.kp
  have hs2 := c4.size
  have hB2 : Below base w w2 := Keep.belowX c4 hB1 (by omega) (by intro x hx; simp at hx; omega)
  obtain ⟨i0, hi, hz0, hz1, hz2⟩ := info_parts infoBy
  clear hpu hv1 hB1 c4 hv hc
  go_wp2_with (at_builtin; refine wpList_append_own _ rfl _ _ 105 rfl base 5 i0 (.int .u8 0) 1 1 Try.underlying105 hi hz0 hz1 hz2 rfl (by decide) _ _ _ rfl hv2 ⟨w.heap.size, 0, none⟩ 8 8 ((le8 x).map byv) rfl ?c0 ?c1 ?c2 ?c3 ?c4 ?c5 ?_)
  case c0 => rfl
  case c1 => exact row_cells c3
  case c2 => exact byv_one _
  case c3 => unfold maxLen; omega
  case c4 => omega
  case c5 => omega
  intro v' w3 hown' hgrow _
  have hB3 := row_below hB2 hgrow hlo (by omega)
  go_wp2
  go_ret
  refine ⟨_, rfl, ?_, hB3⟩
  unfold Bys
  rw [List.map_append, List.length_append]
  exact hown'

set_option maxRecDepth 100000 in
set_option maxHeartbeats 1000000 in
theorem appendNum_c (k base : Nat) (hk : k ≤ 255) (v : Value) (bs : List Nat) (w : World) (hv : Bys w base v bs) (hn : bs.length ≤ 100000) (hbs : base ≤ w.heap.size) :
    Calls Try.prog 56 #[v, .int .u32 k, .int .u8 1] w fun e w' => ∃ v', e = .returned v' ∧ Bys w' base v' (bs ++ [k]) ∧ Below base w w' := by
  have hlo : ∀ g, v.ownBlock = some g → base ≤ g := fun g hg => (hv.lt g hg).1
  obtain ⟨i0, hi, hz0, hz1, hz2⟩ := info_parts infoBy
  have iw : IntKind.u8.wrap (k : Int) = (k : Int) := by unfold IntKind.wrap; simp [IntKind.bits, IntKind.signed]; omega
  have hm : (k : Int) % 256 = (k : Int) := by omega
  go_enter Try.func56, Try.ntmps56
  go_wp2_with (at_builtin; refine wpList_append_own _ rfl _ _ 105 rfl base 5 i0 (.int .u8 0) 1 1 Try.underlying105 hi hz0 hz1 hz2 rfl (by decide) _ _ _ rfl (hv.alloc _) ⟨w.heap.size, 0, none⟩ 1 1 [byv k] rfl rfl (row_cells (heap_alloc_new w _)) ?c2 ?c3 ?c4 ?c5 ?_)
  case c2 => intro u hu; simp at hu; subst hu; rfl
  case c3 => unfold maxLen; omega
  case c4 => omega
  case c5 => simp; omega
  intro v' w3 hown' hgrow _
  have hB3 := row_below ((Below.refl base w).alloc hbs _) hgrow hlo (by simp; omega)
  go_wp2
  go_ret
  refine ⟨_, rfl, ?_, hB3⟩
  unfold Bys
  rw [List.map_append, List.length_append]
  exact hown'
/-- append of bytes that were just laid -/
theorem wpList_byt {ops : Array Oper} {rest : List Oper} {o : Oper} {a : Act} {Q : Exit → Act → World → Prop} (hgd : o.guard = none) (s x : Operand) (ho : o.op = .call { callee := .builtin .append, args := #[s, x], argTypes := #[105, 105] })
    (base : Nat) (bs : List Nat) (v : Value) (w0 w : World) (hs : a.eval s = v) (hv : Bys w base v bs) (hB : Below base w0 w) (hbs : base ≤ w0.heap.size) (cs : List Nat) (T : TypeId) (m : Nat) (hm : cs.length = m)
    (hx : a.eval x = .slice (some ⟨w.heap.size, 0, none⟩) m m) (hn : bs.length + m ≤ 1000000)
    (h : ∀ v' w', Bys w' base v' (bs ++ cs) → Below base w0 w' → wpList Try.prog ops Q rest (a.put o.dst v') w') : wpList Try.prog ops Q (o :: rest) a (w.alloc (.cells (cs.map byv).toArray T)) := by
  have hlo : ∀ g, v.ownBlock = some g → base ≤ g := fun g hg => (hv.lt g hg).1
  obtain ⟨i0, hi, hz0, hz1, hz2⟩ := info_parts infoBy
  have hsz := hB.size
  refine wpList_append_own _ hgd s x 105 ho base 5 i0 (.int .u8 0) 1 1 Try.underlying105 hi hz0 hz1 hz2 rfl (by decide) _ _ _ hs (hv.alloc _) ⟨w.heap.size, 0, none⟩ m m (cs.map byv) hx (by simp [hm]) (row_cells (heap_alloc_new w _)) (byv_one _) (by unfold maxLen; omega) (by omega) (by simp; omega) ?_
  intro v' w3 hown' hgrow _
  refine h v' w3 ?_ (row_below (hB.alloc (by omega) _) hgrow hlo (by simp; omega))
  unfold Bys
  rw [List.map_append, List.length_append, hm]
  exact hown'
end Go.Proofs.Ytdhljiediafeoaa
