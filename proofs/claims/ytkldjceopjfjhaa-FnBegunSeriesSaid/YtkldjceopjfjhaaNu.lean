import Derived.Test.YtkldjceopjfjhaaFgp
import Derived.Test.YtkldjceopjfjhaaBlk
import Derived.Test.YtkldjceopjfjhaaVt
import Derived.Test.YtkldjceopjfjhaaJb
import Derived.Laws.Externs
import Derived.StillTailTactics
set_option linter.unusedSimpArgs false
set_option linter.unusedVariables false
/-! The bytes of the index: numbers appended. -/
namespace JR
structure StopN (p : Prop) : Prop where out : p
end JR
namespace Go.Proofs.Ytkldjceopjfjhaa
open Go.RowKit PF JR
theorem numBytes_c (n : Nat) (hn : n ≤ 255) (w : World) : Calls Try.prog 62 #[.int .u32 n] w fun e w' => e = .returned (.int .u8 1) ∧ w' = w := by
  have h : (n : Int) ≤ 255 := by omega
  have h' := decide_eq_true h
  go_enter Try.func62, Try.ntmps62
  go_wp2
  go_ret
  exact ⟨rfl, rfl⟩
theorem infoBy : (Try.prog.info? 5).map (fun i => (i.zero, i.size, i.bytes)) = some (some (.int .u8 0), 1, 1) := by kernel_rfl
/-- a row of bytes of the call's own: what is in it doesn't matter -/
def Byt (w : World) (base : Nat) (v : Value) (n : Nat) : Prop := ∃ xs : List Value, w.ownsRow base 5 1 v n xs ∧ ∀ x ∈ xs, x.oneCell' = true
theorem one_app {xs ys : List Value} (h1 : ∀ x ∈ xs, x.oneCell' = true) (h2 : ∀ x ∈ ys, x.oneCell' = true) : ∀ x ∈ xs ++ ys, x.oneCell' = true := by
  intro x hx
  rw [List.mem_append] at hx
  exact hx.elim (h1 x) (h2 x)
theorem f64bits (x : Nat) (w : World) : (callFunc 74 #[.float .f64 x]).run Try.prog w = .ok (.value (.int .u64 x)) w := by kernel_rfl

/-- the block b holds n cells, and nothing else was changed -/
def Cel (w : World) (b n : Nat) (T : TypeId) (u : World) : Prop := ∃ cs : Array Value, cs.size = n ∧ (∀ c ∈ cs.toList, c.oneCell' = true) ∧ u.heap[b]? = some (.cells cs T (0, 0)) ∧ Keep [b] w u
theorem Cel.set {w u : World} {b n : Nat} {T : TypeId} (h : Cel w b n T u) (o : Nat) (v : Value) (hv : v.oneCell' = true) : Cel w b n T (u.setCell ⟨b, o, none⟩ v) := by
  obtain ⟨cs, h1, h4, h2, h3⟩ := h
  rw [setCell_row h2]
  refine ⟨_, by simpa using h1, fun c hc => ?_, setRow_same h2, Keep.setRow h3 (.inr (by simp))⟩
  rw [Array.toList_setIfInBounds] at hc
  rcases List.mem_or_eq_of_mem_set hc with h | h
  · exact h4 c h
  · rw [h]; exact hv
theorem Cel.alloc {w u : World} {b n : Nat} {T : TypeId} (h : Cel w b n T u) (x : Obj) : Cel w b n T (u.alloc x) := by
  obtain ⟨cs, h1, h4, h2, h3⟩ := h
  exact ⟨cs, h1, h4, (Below.heap_alloc u _ b (lt_of_some h2)).trans h2, Keep.ext (Ext.alloc u x) h3⟩
theorem Cel.refl {w : World} {b n : Nat} {T : TypeId} {cs : Array Value} (h : w.heap[b]? = some (.cells cs T (0, 0))) (hs : cs.size = n) (h1 : ∀ c ∈ cs.toList, c.oneCell' = true) : Cel w b n T w := ⟨cs, hs, h1, h, Keep.refl _ _⟩
theorem Cel.cell {w u : World} {b n : Nat} {T : TypeId} (h : Cel w b n T u) (k : Nat) (hk : k < n) : ∃ c, u.cell? ⟨b, k, none⟩ = some c := by
  obtain ⟨cs, h1, -, h2, -⟩ := h
  exact ⟨cs[k]'(by omega), (cellAt h2 k).trans (Array.getElem?_eq_getElem (by omega))⟩
theorem Cel.frozen {w u : World} {b n : Nat} {T : TypeId} (h : Cel w b n T u) (k : Nat) : u.frozen? ⟨b, k, none⟩ = false := by
  obtain ⟨cs, h1, -, h2, -⟩ := h
  exact frozenAt h2 k

set_option maxRecDepth 100000 in
set_option maxHeartbeats 4000000 in
theorem putU64_c (x : Nat) (b : Nat) (w : World) (cs : Array Value) (T : TypeId) (hb : w.heap[b]? = some (.cells cs T (0, 0))) (hs : cs.size = 8) (h1 : ∀ c ∈ cs.toList, c.oneCell' = true) :
    Calls Try.prog 73 #[.agg #[], .slice (some ⟨b, 0, none⟩) 8 8, .int .u64 x] w fun e w' => e = .returned (.tuple #[]) ∧ Cel w b 8 T w' := by
  have hr := (Cel.refl hb hs h1).alloc (.cells #[] 124)
  clear hb hs h1
  go_enter Try.func73, Try.ntmps73
  obtain ⟨v7, x7⟩ := hr.cell 7 (by omega)
  go_upto_region 2 with (fail)
  clear x7
  go_cut [] from 9 to 12 (fun wy => Cel w b 8 T wy)
  case first =>
    obtain ⟨v0, x0⟩ := hr.cell 0 (by omega)
    have ff := hr.frozen 0
    go_wp2
    go_meet
    exact hr.set _ _ rfl
  case rest =>
    replace hr := hcut
    clear hcut
    go_upto_region 3 with (fail)
    go_cut [] from 13 to 17 (fun wy => Cel w b 8 T wy)
    case first =>
      obtain ⟨v0, x0⟩ := hr.cell 1 (by omega)
      have ff := hr.frozen 1
      go_wp2
      go_meet
      exact hr.set _ _ rfl
    case rest =>
      replace hr := hcut
      clear hcut
      go_upto_region 4 with (fail)
      go_cut [] from 18 to 22 (fun wy => Cel w b 8 T wy)
      case first =>
        obtain ⟨v0, x0⟩ := hr.cell 2 (by omega)
        have ff := hr.frozen 2
        go_wp2
        go_meet
        exact hr.set _ _ rfl
      case rest =>
        replace hr := hcut
        clear hcut
        go_upto_region 5 with (fail)
        go_cut [] from 23 to 27 (fun wy => Cel w b 8 T wy)
        case first =>
          obtain ⟨v0, x0⟩ := hr.cell 3 (by omega)
          have ff := hr.frozen 3
          go_wp2
          go_meet
          exact hr.set _ _ rfl
        case rest =>
          replace hr := hcut
          clear hcut
          go_upto_region 6 with (fail)
          go_cut [] from 28 to 32 (fun wy => Cel w b 8 T wy)
          case first =>
            obtain ⟨v0, x0⟩ := hr.cell 4 (by omega)
            have ff := hr.frozen 4
            go_wp2
            go_meet
            exact hr.set _ _ rfl
          case rest =>
            replace hr := hcut
            clear hcut
            go_upto_region 7 with (fail)
            go_cut [] from 33 to 37 (fun wy => Cel w b 8 T wy)
            case first =>
              obtain ⟨v0, x0⟩ := hr.cell 5 (by omega)
              have ff := hr.frozen 5
              go_wp2
              go_meet
              exact hr.set _ _ rfl
            case rest =>
              replace hr := hcut
              clear hcut
              go_upto_region 8 with (fail)
              go_cut [] from 38 to 42 (fun wy => Cel w b 8 T wy)
              case first =>
                obtain ⟨v0, x0⟩ := hr.cell 6 (by omega)
                have ff := hr.frozen 6
                go_wp2
                go_meet
                exact hr.set _ _ rfl
              case rest =>
                replace hr := hcut
                clear hcut
                go_upto_region 9 with (fail)
                obtain ⟨v0, x0⟩ := hr.cell 7 (by omega)
                have ff := hr.frozen 7
                go_wp2
                go_end0
                exact ⟨rfl, hr.set _ _ rfl⟩

theorem Byt.below {w w' : World} {base n : Nat} {v : Value} (h : Byt w base v n) (hb : Below w.heap.size w w') : Byt w' base v n := by
  obtain ⟨xs, h, h1⟩ := h
  exact ⟨xs, h.kept (Ext.grown hb none) (own_none _), h1⟩
theorem Cel.byt {w u : World} {b k base n : Nat} {T : TypeId} {v : Value} (h : Cel w b k T u) (hv : Byt w base v n) (hne : v.ownBlock ≠ some b) : Byt u base v n := by
  obtain ⟨cs, -, -, -, h3⟩ := h
  obtain ⟨xs, hv, h1⟩ := hv
  refine ⟨xs, hv.kept (w' := u) (row := some b) ⟨h3.os, h3.tape, h3.output, h3.size, fun k hk hne => h3.block k hk (by intro hm; simp at hm; exact hne (by rw [hm]))⟩ (.inr hne), h1⟩

set_option maxRecDepth 100000 in
set_option maxHeartbeats 4000000 in
theorem appendFloat_c (x n base : Nat) (v : Value) (w : World) (hv : Byt w base v n) (hn : n ≤ 100000) (hbs : base ≤ w.heap.size) :
    Calls Try.prog 68 #[v, fl x] w fun e w' => ∃ v', e = .returned v' ∧ Byt w' base v' (n + 8) ∧ Below base w w' := by
  have hf := f64bits
  have hlt : ∀ g, v.ownBlock = some g → g < w.heap.size := fun g hg => by obtain ⟨xs, h, -⟩ := hv; exact (h.lt g hg).2
  have hlo : ∀ g, v.ownBlock = some g → base ≤ g := fun g hg => by obtain ⟨xs, h, -⟩ := hv; exact (h.lt g hg).1
  have hb0 := heap_alloc_new w (.cells #[.int .u8 0, .int .u8 0, .int .u8 0, .int .u8 0, .int .u8 0, .int .u8 0, .int .u8 0, .int .u8 0] 147)
  go_enter Try.func68, Try.ntmps68
  go_wp2
  go_still_tail 4, (by kernel_rfl)
  change wpList _ _ _ _ _ (w.alloc (.cells #[.int .u8 0, .int .u8 0, .int .u8 0, .int .u8 0, .int .u8 0, .int .u8 0, .int .u8 0, .int .u8 0] 147)).drew
  have hb1 : (w.alloc (.cells #[.int .u8 0, .int .u8 0, .int .u8 0, .int .u8 0, .int .u8 0, .int .u8 0, .int .u8 0, .int .u8 0] 147)).drew.heap[w.heap.size]? = _ := hb0
  have hv1 : Byt (w.alloc (.cells #[.int .u8 0, .int .u8 0, .int .u8 0, .int .u8 0, .int .u8 0, .int .u8 0, .int .u8 0, .int .u8 0] 147)).drew base v n := by
    obtain ⟨xs, h, h1⟩ := hv
    exact ⟨xs, (h.alloc _).kept ⟨rfl, rfl, rfl, Nat.le_refl _, fun _ _ _ => rfl⟩ (own_none _), h1⟩
  have hB1 : Below base w (w.alloc (.cells #[.int .u8 0, .int .u8 0, .int .u8 0, .int .u8 0, .int .u8 0, .int .u8 0, .int .u8 0, .int .u8 0] 147)).drew := ((Below.refl base w).alloc hbs _).drew
  have hpu := putU64_c x w.heap.size _ _ _ hb1 rfl (by intro c hc; simp at hc; rcases hc with rfl | rfl | rfl | rfl | rfl | rfl | rfl | rfl <;> rfl)
  have hsz : (w.alloc (.cells #[.int .u8 0, .int .u8 0, .int .u8 0, .int .u8 0, .int .u8 0, .int .u8 0, .int .u8 0, .int .u8 0] 147)).drew.heap.size = w.heap.size + 1 := by simp
  generalize (w.alloc (.cells #[.int .u8 0, .int .u8 0, .int .u8 0, .int .u8 0, .int .u8 0, .int .u8 0, .int .u8 0, .int .u8 0] 147)).drew = w1 at *
  clear hb0 hb1
  go_wp2_with (go_at_call 73; refine JR.StopN.out ?_)
  refine ⟨?_⟩
  refine hpu.mono ?_
  rintro e w2 ⟨rfl, hc⟩
  have hv2 := hc.byt hv1 (fun h => by have := hlt _ h; omega)
  obtain ⟨cs, c1, c2, c3, c4⟩ := hc
  have hs2 := c4.size
  have hB2 : Below base w w2 := Keep.belowX c4 hB1 (by omega) (by intro x hx; simp at hx; omega)
  obtain ⟨xs, hown, hone⟩ := hv2
  obtain ⟨i0, hi, hz0, hz1, hz2⟩ := info_parts infoBy
  clear hpu hv1 hB1 c4 hv
  go_wp2_with (at_builtin; refine wpList_append_own _ rfl _ _ 111 rfl base 5 i0 (.int .u8 0) 1 1 Try.underlying111 hi hz0 hz1 hz2 rfl (by decide) _ _ _ rfl hown ⟨w.heap.size, 0, none⟩ 8 8 cs.toList rfl ?c0 ?c1 ?c2 ?c3 ?c4 ?c5 ?_)
  case c0 => simp [c1]
  case c1 => exact row_cells c3
  case c2 => exact c2
  case c3 => unfold maxLen; omega
  case c4 => omega
  case c5 => omega
  intro v' w3 hown' hgrow _
  have hB3 := row_below hB2 hgrow hlo (by omega)
  go_wp2
  go_ret
  exact ⟨_, rfl, ⟨_, hown', one_app hone c2⟩, hB3⟩

set_option maxRecDepth 100000 in
set_option maxHeartbeats 1000000 in
theorem appendNum_c (k n base : Nat) (hk : k ≤ 255) (v : Value) (w : World) (hv : Byt w base v n) (hn : n ≤ 100000) (hbs : base ≤ w.heap.size) :
    Calls Try.prog 63 #[v, .int .u32 k, .int .u8 1] w fun e w' => ∃ v', e = .returned v' ∧ Byt w' base v' (n + 1) ∧ Below base w w' := by
  have hlo : ∀ g, v.ownBlock = some g → base ≤ g := fun g hg => by obtain ⟨xs, h, -⟩ := hv; exact (h.lt g hg).1
  obtain ⟨xs, hown, hone⟩ := hv
  obtain ⟨i0, hi, hz0, hz1, hz2⟩ := info_parts infoBy
  go_enter Try.func63, Try.ntmps63
  go_wp2_with (at_builtin; refine wpList_append_own _ rfl _ _ 111 rfl base 5 i0 (.int .u8 0) 1 1 Try.underlying111 hi hz0 hz1 hz2 rfl (by decide) _ _ _ rfl (hown.alloc _) ⟨w.heap.size, 0, none⟩ 1 1 [_] rfl rfl (row_cells (heap_alloc_new w _)) ?c2 ?c3 ?c4 ?c5 ?_)
  case c2 => intro u hu; simp at hu; subst hu; rfl
  case c3 => unfold maxLen; omega
  case c4 => omega
  case c5 => simp; omega
  intro v' w3 hown' hgrow _
  have hB3 := row_below ((Below.refl base w).alloc hbs _) hgrow hlo (by simp; omega)
  go_wp2
  go_ret
  exact ⟨_, rfl, ⟨_, hown', one_app hone (by intro u hu; simp at hu; subst hu; rfl)⟩, hB3⟩
end Go.Proofs.Ytkldjceopjfjhaa
