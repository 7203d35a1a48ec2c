import Derived.Test.YtkldjceopjfjhaaQc
import Derived.Test.YtkldjceopjfjhaaCpy
import Derived.Test.YtkldjceopjfjhaaPts
set_option linter.unusedSimpArgs false
set_option linter.unusedVariables false
/-! setCompressed: the index laid into the series. -/
namespace Go.Proofs.Ytkldjceopjfjhaa
open Go.RowKit PF JR
/-- the first n cells are there, one cell each -/
def One (cs : Array Value) (n : Nat) : Prop := ∀ i, i < n → ∃ x, cs[i]? = some x ∧ x.oneCell' = true
theorem One.set {cs : Array Value} {n : Nat} (h : One cs n) (o : Nat) (v : Value) (hv : v.oneCell' = true) : One (cs.setIfInBounds o v) n := by
  intro i hi
  obtain ⟨x, hx, h1⟩ := h i hi
  rw [Array.getElem?_setIfInBounds]
  split
  · split
    · exact ⟨v, rfl, hv⟩
    · rename_i h1 h2
      subst h1
      rw [Array.getElem?_eq_none (by omega)] at hx
      cases hx
  · exact ⟨x, hx, h1⟩

set_option maxRecDepth 100000 in
set_option maxHeartbeats 4000000 in
theorem putU32_c (b k c x : Nat) (cs : Array Value) (T : TypeId) (w : World) (hb : w.heap[b]? = some (.cells cs T (0, 0))) (hs : 5 ≤ cs.size) (hk : 4 ≤ k) :
    Calls Try.prog 58 #[.agg #[], .slice (some ⟨b, 1, none⟩) k c, .int .u32 x] w fun e w' => e = .returned (.tuple #[]) ∧ ∃ cs', cs'.size = cs.size ∧ (∀ n, One cs n → One cs' n) ∧ Rw w w' b cs' T := by
  have hr : Rw w (w.alloc (.cells #[] 124)) b cs T := (Rw.refl hb).ext ((Below.refl _ w).alloc (Nat.le_refl _) _)
  obtain ⟨y1, z1⟩ := hr.cell 1 (by omega)
  obtain ⟨y2, z2⟩ := hr.cell 2 (by omega)
  obtain ⟨y3, z3⟩ := hr.cell 3 (by omega)
  obtain ⟨y4, z4⟩ := hr.cell 4 (by omega)
  have f1 := frozenAt hr.row 1
  have f2 := frozenAt hr.row 2
  have f3 := frozenAt hr.row 3
  have f4 := frozenAt hr.row 4
  have k0 : (0 : Int) < k := by omega
  have k1 : (1 : Int) < k := by omega
  have k2 : (2 : Int) < k := by omega
  have k3 : (3 : Int) < k := by omega
  clear hb
  go_enter Try.func58, Try.ntmps58
  go_wp2
  go_end0
  refine ⟨rfl, _, ?_, ?_, (((hr.set 1 _).set 2 _).set 3 _).set 4 _⟩
  · simp
  · intro n hn
    exact (((hn.set 1 _ rfl).set 2 _ rfl).set 3 _ rfl).set 4 _ rfl

/-- a row of bytes, opened -/
theorem Byt.open {w : World} {base n : Nat} {v : Value} (h : Byt w base v n) (hn : n ≠ 0) : ∃ g cap cur, v = .slice (some ⟨g, 0, none⟩) n cap ∧ base ≤ g ∧ w.heap[g]? = some (.cells cur 5 (0, 0)) ∧ n ≤ cap ∧ cap ≤ maxLen ∧ cur.size = cap ∧ One cur n := by
  obtain ⟨xs, h, h1⟩ := h
  rcases h.2 with ⟨-, h2⟩ | ⟨g, cap, cur, h2, h3, h4, h5, h6, h7, h8⟩
  · exact absurd h2 hn
  · refine ⟨g, cap, cur, h2, h3, h4, h5, h6, by simpa using h7, fun i hi => ?_⟩
    have hx : i < xs.length := by rw [h.1]; omega
    obtain ⟨x, this⟩ : ∃ x, xs[i]? = some x := ⟨_, List.getElem?_eq_getElem hx⟩
    refine ⟨x, ?_, h1 _ (List.mem_of_getElem? this)⟩
    rw [← h8, List.getElem?_take] at this
    split at this
    · simpa using this
    · cases this

set_option maxRecDepth 100000 in
set_option maxHeartbeats 4000000 in
theorem setComp_c (sb m base : Nat) (v : Value) (ss : Array Value) (w : World) (hs : w.heap[sb]? = some (.cells ss 93 (0, 0))) (hss : 5 ≤ ss.size) (hv : Byt w base v m) (hm : 5 ≤ m) (hm2 : m ≤ 1000) (hbs : base ≤ w.heap.size) (hsb : sb < base) :
    Calls Try.prog 52 #[.pointer (some ⟨sb, 0, none⟩), v] w fun e w' => e = .returned (.tuple #[]) ∧ ∃ w4 x, Below base w w4 ∧ w4.heap[sb]? = some (.cells ss 93 (0, 0)) ∧ w' = w4.setCell ⟨sb, 4, none⟩ (.iface 111 x) := by
  obtain ⟨g, cap, cur, rfl, hg, hrow, hcap, hmax, hcs, hone⟩ := hv.open (by omega)
  obtain ⟨i0, hi, hz0, hz1, hz2⟩ := info_parts infoBy
  have hmk : ∀ u : World, (Instr.makeSlice 111 (.int .i64 m) (.int .i64 m)).run Try.prog u = .ok (.slice (some ⟨u.heap.size, 0, none⟩) m m) (u.alloc (.cells (madeCells #[.int .u8 0] m) 5)) := by
    intro u
    have := run_make (P := Try.prog) u 111 5 i0 (.int .u8 0) Try.underlying111 hi hz0 .i64 .i64 m m (by omega) (by omega) (by rw [hz2]; omega) (by omega)
    rw [hz1] at this
    have e : (Value.int .u8 0).cells = #[.int .u8 0] := rfl
    rw [e] at this
    simpa using this
  have i1 : (1 : Int) ≤ m := by omega
  have i2 : (m : Int) ≤ cap := by omega
  go_enter Try.func52, Try.ntmps52
  go_upto_region 0 with (fail)
  go_still_tail 6, (by kernel_rfl)
  change wpList _ _ _ _ _ w.drew
  have hb1 : Below w.heap.size w w.drew := (Below.refl _ w).drew
  have hs1 : w.drew.heap.size = w.heap.size := rfl
  have hrow1 := (hb1.block g (lt_of_some hrow)).trans hrow
  have hss1 := (hb1.block sb (lt_of_some hs)).trans hs
  have hB1 : Below base w w.drew := hb1.mono hbs
  generalize w.drew = w1 at *
  clear hb1 hrow hs hv
  have hput := fun k c x hk => putU32_c g k c x cur _ w1 hrow1 (by omega) hk
  go_wp2_with (go_at_call 58; refine JR.StopN.out ?_)
  refine ⟨?_⟩
  refine (hput _ _ _ (by omega)).mono ?_
  rintro e w2 ⟨rfl, cur2, hsz2, hone2, hr2⟩
  replace hone := hone2 m hone
  have hgs : sb ≠ g := by omega
  have hss2 := (hr2.kp.block sb (lt_of_some hss1) (by simpa using hgs)).trans hss1
  have hB2 : Below base w w2 := hB1.trans (hr2.below (Nat.le_trans hbs hB1.size) (by omega))
  have hrow2 := hr2.row
  clear hrow1 hr2 hone2 hput hss1 hB1
  have hsz3 := size_madeCells #[.int .u8 0] m
  have hnew := heap_alloc_new w2 (.cells (madeCells #[.int .u8 0] m) 5)
  have hB3 : Below w2.heap.size w2 (w2.alloc (.cells (madeCells #[.int .u8 0] m) 5)) := (Below.refl _ w2).alloc (Nat.le_refl _) _
  have hlen : (cur2.toList.take m).length = m := by simp [hsz2, hcs]; omega
  have had : ∀ j, ((⟨g, 0, none⟩ : Addr).add j) = ⟨g, j, none⟩ := fun j => by simp [Addr.add]; exact fun h => h.symm
  have hsrc : ∀ j v, (cur2.toList.take m)[j]? = some v → w2.cell? ((⟨g, 0, none⟩ : Addr).add j) = some v := by
    intro j v hj
    rw [had j]
    rw [List.getElem?_take] at hj
    split at hj
    · exact (cellAt hrow2 j).trans (by simpa using hj)
    · cases hj
  have hon : ∀ v ∈ cur2.toList.take m, v.oneCell' = true := by
    intro v hv
    obtain ⟨j, hj⟩ := List.getElem?_of_mem hv
    rw [List.getElem?_take] at hj
    split at hj
    · rename_i h1
      obtain ⟨x, hx, h2⟩ := hone j h1
      rw [← Array.getElem?_toList] at hx
      rw [hx] at hj
      cases hj
      exact h2
    · cases hj
  go_wp2
  rw [run_copy_wide _ _ _ _ 5 _ _ _ ⟨g, 0, none⟩ _ _ 1 _ _ (cur2.toList.take m) Try.underlying111 (by rw [hi]; simp [hz1]) hnew (by simp [hlen]) (fun j v hj => (hB3.cell (by rw [had j]; exact lt_of_some hrow2)).trans (hsrc j v hj)) (by simp [hlen, hsz3]) hon]
  have hB4 : Below w2.heap.size w2 ((w2.alloc (.cells (madeCells #[.int .u8 0] m) 5)).setRow w2.heap.size (cur2.toList.take m ++ (madeCells #[.int .u8 0] m).toList.drop (cur2.toList.take m).length).toArray) :=
    hB3.trans ⟨rfl, rfl, rfl, by rw [JR.setRow_size]; exact Nat.le_refl _, fun k hk' => JR.setRow_other (by omega)⟩
  have hss4 := (hB4.block sb (lt_of_some hss2)).trans hss2
  have hB04 := hB2.trans (hB4.mono (Nat.le_trans hbs hB2.size))
  simp only [Result.andThen_ok]
  generalize World.setRow _ w2.heap.size _ = w4 at *
  clear hsrc hon hB3 hnew hrow2 hmk hss2 hB2 hsz3
  obtain ⟨y, z⟩ := (Rw.refl hss4).cell 4 (by omega)
  have f4 := frozenAt hss4 4
  simp only [Oper.upon]
  go_wp2
  go_end0
  exact ⟨rfl, _, _, hB04, hss4, rfl⟩
end Go.Proofs.Ytkldjceopjfjhaa
