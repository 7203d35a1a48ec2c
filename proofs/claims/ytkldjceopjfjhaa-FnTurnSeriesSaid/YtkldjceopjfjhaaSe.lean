import Derived.Test.YtkldjceopjfjhaaNk
set_option linter.unusedSimpArgs false
set_option linter.unusedVariables false
/-! impl.series: a ring, or a line, with an index. -/
namespace Go.Proofs.Ytkldjceopjfjhaa
open Go.RowKit PF JR
theorem index2_c (K : Nat) (hK : K ≤ 2) (w : World) : Calls Try.prog 40 #[.int .i64 K, .int .i64 2] w fun e w' => e = .returned (.pointer (some ⟨w.heap.size, 0, none⟩)) ∧ w' = w.alloc (.cells #[.int .u8 K, .int .i64 2] 91) := by
  have hk : K = 0 ∨ K = 1 ∨ K = 2 := by omega
  rcases hk with rfl | rfl | rfl
  · go_enter Try.func40, Try.ntmps40
    go_wp2
    go_ret
    exact ⟨rfl, rfl⟩
  · go_enter Try.func40, Try.ntmps40
    go_wp2
    go_ret
    exact ⟨rfl, rfl⟩
  · go_enter Try.func40, Try.ntmps40
    go_wp2
    go_ret
    exact ⟨rfl, rfl⟩
set_option maxRecDepth 100000 in
set_option maxHeartbeats 2000000 in
theorem newPolyK_c (K : Nat) (hK2 : K ≤ 2) (l : List (Int × Int)) (hl : l.length ≤ 12) (h3l : 3 ≤ l.length) (hbd : ∀ p ∈ l, Bnd p) (ob : Nat) (v : Value) (lo hb0 : Nat) (w : World) (hhb : hb0 ≤ w.heap.size)
    (hob : w.heap[ob]? = some (.cells #[.int .u8 K, .int .i64 2] 91 (0, 0))) (hv : SlQ lo hb0 w v l) :
    Calls Try.prog 38 #[v, .slice none 0 0, .pointer (some ⟨ob, 0, none⟩)] w fun e w' => ∃ n b : Nat, e = .returned (.pointer (some ⟨n, 0, none⟩)) ∧ w'.heap[n]? = some (.cells #[.iface 97 (.pointer (some ⟨b, 0, none⟩)), .slice none 0 0] 77 (0, 0)) ∧ SkP K true l 93 w.heap.size w'.heap.size b w' ∧ Below w.heap.size w w' := by
  have st0 := (Blk.nil w).push rfl #[.nilIface, .slice none 0 0] 77
  go_enter Try.func38, Try.ntmps38
  go_wp2_with (go_at_call 43; refine JR.StopM.out ?_)
  refine ⟨?_⟩
  have hob1 := (st0.hb.block ob (lt_of_some hob)).trans hob
  refine (newRingK_c K l v _ _ (makeSeriesK_c K hK2 true l hl (by omega) (fun _ => h3l) hbd ob v lo hb0 _ (by simp; omega) hob1 (hv.below st0.hb))).mono ?_
  rintro e w1 ⟨be, rfl, hse, hb⟩
  have st1 := st0.ext hb
  clear hb st0 hob1
  have x0 := st1.cell 0 rfl 0
  have x1 := st1.cell 0 rfl 1
  have xf := fun o => st1.frozen 0 rfl o
  simp only [List.getElem?_toArray, List.getElem?_cons_zero, List.getElem?_cons_succ] at x0 x1
  go_wp2
  go_ret
  have p0 := st1.put (o := 0) (v := .iface 97 (.pointer (some ⟨be, 0, none⟩))) 0 rfl ⟨.inl rfl, trivial⟩ (Nat.le_refl _)
  have hn := p0.known 0 _ rfl
  refine ⟨_, be, rfl, hn, ?_, p0.hb⟩
  refine (hse.keep fun k h1 h2 h3 => Below.heap_setCell _ _ _ _ (by show k ≠ w.heap.size; simp at h1; omega)).wide (by simp) (by simp)
/-- the type behind a series -/
def serT (closed : Bool) : TypeId := if closed then 97 else 84
/-- the type of a series' block -/
def serB (closed : Bool) : TypeId := if closed then 93 else 95
def SrP (K : Nat) (closed : Bool) (l : List (Int × Int)) (w : World) (e : Ending) (w' : World) : Prop :=
  ∃ b : Nat, e = .returned (.iface (serT closed) (.pointer (some ⟨b, 0, none⟩))) ∧ SkP K closed l (serB closed) w.heap.size w'.heap.size b w' ∧ Below w.heap.size w w'
set_option maxRecDepth 100000 in
set_option maxHeartbeats 2000000 in
theorem series_c (K : Nat) (hK2 : K ≤ 2) (closed : Bool) (l : List (Int × Int)) (hl : l.length ≤ 12) (h2l : 2 ≤ l.length) (h3l : closed = true → 3 ≤ l.length) (hbd : ∀ p ∈ l, Bnd p) (v : Value) (w : World) (hv : SlP w v l) :
    Calls Try.prog 17 #[v, .bool closed, .int .i64 K, .int .i64 2] w (SrP K closed l w) := by
  have hpts := pts_c l (by omega) v w hv
  unfold SrP
  cases closed with
  | true =>
    go_enter Try.func17, Try.ntmps17
    go_wp2_with (go_at_call 39; refine JR.StopM.out ?_)
    refine ⟨?_⟩
    refine hpts.mono ?_
    rintro e w1 ⟨v1, rfl, sq, hb⟩
    clear hpts hv
    go_wp2_with (go_at_call 40; refine JR.StopM.out ?_)
    refine ⟨?_⟩
    refine (index2_c K hK2 w1).mono ?_
    rintro e w2 ⟨rfl, rfl⟩
    have hb2 : Below w1.heap.size w1 (w1.alloc (.cells #[.int .u8 K, .int .i64 2] 91)) := (Below.refl _ w1).alloc (Nat.le_refl _) _
    have ho := heap_alloc_new w1 (.cells #[.int .u8 K, .int .i64 2] 91)
    have sq2 := sq.below hb2
    have hB2 := hb.trans (hb2.mono hb.size)
    have hs2 : w1.heap.size ≤ (w1.alloc (.cells #[.int .u8 K, .int .i64 2] 91)).heap.size := hb2.size
    clear hb hb2 sq
    generalize w1.alloc (.cells #[.int .u8 K, .int .i64 2] 91) = w2 at *
    go_wp2_with (go_at_call 38; refine JR.StopM.out ?_)
    refine ⟨?_⟩
    refine (newPolyK_c K hK2 l hl (by first | exact h3l rfl | exact h3l trivial) hbd _ v1 w.heap.size w1.heap.size w2 hs2 ho sq2).mono ?_
    rintro e w3 ⟨n, b, rfl, hn, hs, hb3⟩
    have hB3 := hB2.trans (hb3.mono hB2.size)
    have hs3 := hs.wide hB2.size (Nat.le_refl _)
    have x0 := cellAt hn 0
    simp only [List.getElem?_toArray, List.getElem?_cons_zero, List.getElem?_cons_succ] at x0
    clear hn hs hb3 hB2 sq2 ho
    go_wp2
    go_ret
    exact ⟨b, rfl, hs3, hB3⟩
  | false =>
    go_enter Try.func17, Try.ntmps17
    go_wp2_with (go_at_call 39; refine JR.StopM.out ?_)
    refine ⟨?_⟩
    refine hpts.mono ?_
    rintro e w1 ⟨v1, rfl, sq, hb⟩
    clear hpts hv
    go_wp2_with (go_at_call 40; refine JR.StopM.out ?_)
    refine ⟨?_⟩
    refine (index2_c K hK2 w1).mono ?_
    rintro e w2 ⟨rfl, rfl⟩
    have hb2 : Below w1.heap.size w1 (w1.alloc (.cells #[.int .u8 K, .int .i64 2] 91)) := (Below.refl _ w1).alloc (Nat.le_refl _) _
    have ho := heap_alloc_new w1 (.cells #[.int .u8 K, .int .i64 2] 91)
    have sq2 := sq.below hb2
    have hB2 := hb.trans (hb2.mono hb.size)
    have hs2 : w1.heap.size ≤ (w1.alloc (.cells #[.int .u8 K, .int .i64 2] 91)).heap.size := hb2.size
    clear hb hb2 sq
    generalize w1.alloc (.cells #[.int .u8 K, .int .i64 2] 91) = w2 at *
    go_wp2_with (go_at_call 41; refine JR.StopM.out ?_)
    refine ⟨?_⟩
    refine (newLineK_c K l v1 _ w2 (fun u hu => makeSeriesK_c K hK2 false l hl h2l (fun h => (nomatch h)) hbd _ v1 w.heap.size w1.heap.size u (Nat.le_trans hs2 hu.size) ((hu.block _ (lt_of_some ho)).trans ho) (sq2.below hu))).mono ?_
    rintro e w3 ⟨b, rfl, hs, hb3⟩
    have hB3 := hB2.trans (hb3.mono hB2.size)
    have hs3 := hs.wide hB2.size (Nat.le_refl _)
    clear hs hb3 hB2 sq2 ho
    go_wp2
    go_ret
    exact ⟨b, rfl, hs3, hB3⟩
end Go.Proofs.Ytkldjceopjfjhaa
