import Derived.Test.YtdhljiediafeoaaEq
set_option linter.unusedSimpArgs false
set_option linter.unusedVariables false
/-! setCompressed: the index laid into the series, exactly. -/
namespace Go.Proofs.Ytdhljiediafeoaa
open Go.RowKit PF JR
theorem Bys.open {w : World} {base : Nat} {v : Value} {bs : List Nat} (h : Bys w base v bs) (hn : bs ≠ []) : ∃ g cap cur, v = .slice (some ⟨g, 0, none⟩) bs.length cap ∧ base ≤ g ∧ w.heap[g]? = some (.cells cur 5 (0, 0)) ∧ bs.length ≤ cap ∧ cap ≤ maxLen ∧ cur.size = cap ∧ cur.toList.take bs.length = bs.map byv := by
  rcases h.2 with ⟨-, h2⟩ | ⟨g, cap, cur, h2, h3, h4, h5, h6, h7, h8⟩
  · exact absurd (List.eq_nil_of_length_eq_zero h2) hn
  · exact ⟨g, cap, cur, h2, h3, h4, h5, h6, by simpa using h7, by simpa using h8⟩
set_option maxRecDepth 100000 in
set_option maxHeartbeats 4000000 in
theorem putU32_c (b k c x : Nat) (hx : x < 4294967296) (cs : Array Value) (T : TypeId) (w : World) (hb : w.heap[b]? = some (.cells cs T (0, 0))) (hs : 5 ≤ cs.size) (hk : 4 ≤ k) :
    Calls Try.prog 51 #[.agg #[], .slice (some ⟨b, 1, none⟩) k c, .int .u32 x] w fun e w' => e = .returned (.tuple #[]) ∧ Rw w w' b ((((cs.setIfInBounds 1 (byv (x % 256))).setIfInBounds 2 (byv (x / 256 % 256))).setIfInBounds 3 (byv (x / 65536 % 256))).setIfInBounds 4 (byv (x / 16777216 % 256))) T := by
  have hr : Rw w (w.alloc (.cells #[] 118)) b cs T := (Rw.refl hb).ext ((Below.refl _ w).alloc (Nat.le_refl _) _)
  obtain ⟨y1, z1⟩ := hr.cell 1 (by omega)
  obtain ⟨y2, z2⟩ := hr.cell 2 (by omega)
  obtain ⟨y3, z3⟩ := hr.cell 3 (by omega)
  obtain ⟨y4, z4⟩ := hr.cell 4 (by omega)
  have f1 := frozenAt hr.row 1
  have f2 := frozenAt hr.row 2
  have f3 := frozenAt hr.row 3
  have f4 := frozenAt hr.row 4
  have k0 : (0 : Int) < k := by omega
  have k1 : (1 : Int) < k := by omega
  have k2 : (2 : Int) < k := by omega
  have k3 : (3 : Int) < k := by omega
  clear hb
  go_enter Try.func51, Try.ntmps51
  go_wp2
  go_end0
  have h := (((hr.set 1 (.int .u8 ((x : Int) % 256))).set 2 (.int .u8 ((x : Int) / 256 % 256))).set 3 (.int .u8 ((x : Int) / 65536 % 256))).set 4 (.int .u8 ((x : Int) / 16777216))
  have e4 : ((x / 16777216 % 256 : Nat) : Int) = (x : Int) / 16777216 := by omega
  have e1 : byv (x % 256) = .int .u8 ((x : Int) % 256) := by unfold byv; congr 1
  have e2 : byv (x / 256 % 256) = .int .u8 ((x : Int) / 256 % 256) := by unfold byv; congr 1
  have e3 : byv (x / 65536 % 256) = .int .u8 ((x : Int) / 65536 % 256) := by unfold byv; congr 1
  have e5 : byv (x / 16777216 % 256) = .int .u8 ((x : Int) / 16777216) := by unfold byv; rw [e4]
  rw [e1, e2, e3, e5]
  exact ⟨rfl, h⟩

set_option maxRecDepth 100000 in
set_option maxHeartbeats 4000000 in
theorem setComp_c (sb m base h0 : Nat) (rest : List Nat) (v : Value) (ss : Array Value) (w : World) (hs : w.heap[sb]? = some (.cells ss 86 (0, 0))) (hss : 5 ≤ ss.size) (hv : Bys w base v (h0 :: 0 :: 0 :: 0 :: 0 :: rest)) (hm : rest.length + 5 = m) (hm2 : m ≤ 1000) (hbs0 : base ≤ w.heap.size) (hsb : sb < base) :
    Calls Try.prog 45 #[.pointer (some ⟨sb, 0, none⟩), v] w fun e w' => e = .returned (.tuple #[]) ∧ ∃ w4 g, Below base w w4 ∧ w4.heap[sb]? = some (.cells ss 86 (0, 0)) ∧ base ≤ g ∧ w4.heap[g]? = some (.cells ((h0 :: (le4 m ++ rest)).map byv).toArray 5 (0, 0)) ∧ w' = w4.setCell ⟨sb, 4, none⟩ (.iface 105 (.slice (some ⟨g, 0, none⟩) m m)) := by
  obtain ⟨g, cap, cur, rfl, hg, hrow, hcap, hmax, hcs, htk⟩ := hv.open (by simp)
  rw [show (h0 :: 0 :: 0 :: 0 :: 0 :: rest).length = m from by simp; omega] at *
  obtain ⟨i0, hi, hz0, hz1, hz2⟩ := info_parts infoBy
  have hmk : ∀ u : World, (Instr.makeSlice 105 (.int .i64 m) (.int .i64 m)).run Try.prog u = .ok (.slice (some ⟨u.heap.size, 0, none⟩) m m) (u.alloc (.cells (madeCells #[.int .u8 0] m) 5)) := by
    intro u
    have := run_make (P := Try.prog) u 105 5 i0 (.int .u8 0) Try.underlying105 hi hz0 .i64 .i64 m m (by omega) (by omega) (by rw [hz2]; omega) (by omega)
    rw [hz1] at this
    have e : (Value.int .u8 0).cells = #[.int .u8 0] := rfl
    rw [e] at this
    simpa using this
  have i1 : (1 : Int) ≤ m := by omega
  have i2 : (m : Int) ≤ cap := by omega
  go_enter Try.func45, Try.ntmps45
  go_upto_region 0 with (fail)
  go_still_tail 6, (by kernel_rfl)
  change wpList _ _ _ _ _ w.drew
  have hb1 : Below w.heap.size w w.drew := (Below.refl _ w).drew
  have hs1 : w.drew.heap.size = w.heap.size := rfl
  have hrow1 := (hb1.block g (lt_of_some hrow)).trans hrow
  have hss1 := (hb1.block sb (lt_of_some hs)).trans hs
  have hB1 : Below base w w.drew := hb1.mono hbs0
  generalize w.drew = w1 at *
  clear hb1 hrow hs hv
  have hput := fun k c hk => putU32_c g k c m (by omega) cur _ w1 hrow1 (by omega) hk
  go_wp2_with (go_at_call 51; refine JR.StopN.out ?_)
  refine ⟨?_⟩
  refine (hput _ _ (by omega)).mono ?_
  rintro e w2 ⟨rfl, hr2⟩
  obtain ⟨cur2, hcur2⟩ : ∃ c, c = ((((cur.setIfInBounds 1 (byv (m % 256))).setIfInBounds 2 (byv (m / 256 % 256))).setIfInBounds 3 (byv (m / 65536 % 256))).setIfInBounds 4 (byv (m / 16777216 % 256))) := ⟨_, rfl⟩
  rw [← hcur2] at hr2
  have hsz2 : cur2.size = cur.size := by rw [hcur2]; simp
  have hbs : cur2.toList.take m = (h0 :: (le4 m ++ rest)).map byv := by
    rw [hcur2]
    simp only [Array.toList_setIfInBounds, List.take_set, htk]
    simp [le4]
  clear hcur2
  have hgs : sb ≠ g := by omega
  have hss2 := (hr2.kp.block sb (lt_of_some hss1) (by simpa using hgs)).trans hss1
  have hB2 : Below base w w2 := hB1.trans (hr2.below (Nat.le_trans hbs0 hB1.size) (by omega))
  have hrow2 := hr2.row
  clear hrow1 hr2 hput hss1 hB1
  have hsz3 := size_madeCells #[.int .u8 0] m
  have hnew := heap_alloc_new w2 (.cells (madeCells #[.int .u8 0] m) 5)
  have hB3 : Below w2.heap.size w2 (w2.alloc (.cells (madeCells #[.int .u8 0] m) 5)) := (Below.refl _ w2).alloc (Nat.le_refl _) _
  have hlen : (cur2.toList.take m).length = m := by simp [hsz2, hcs]; omega
  have had : ∀ j, ((⟨g, 0, none⟩ : Addr).add j) = ⟨g, j, none⟩ := fun j => by simp [Addr.add]; exact fun h => h.symm
  have hsrc : ∀ j v, (cur2.toList.take m)[j]? = some v → w2.cell? ((⟨g, 0, none⟩ : Addr).add j) = some v := by
    intro j v hj
    rw [had j]
    rw [List.getElem?_take] at hj
    split at hj
    · exact (cellAt hrow2 j).trans (by simpa using hj)
    · cases hj
  have hon : ∀ v ∈ cur2.toList.take m, v.oneCell' = true := by rw [hbs]; exact byv_one _
  go_wp2
  rw [run_copy_wide _ _ _ _ 5 _ _ _ ⟨g, 0, none⟩ _ _ 1 _ _ (cur2.toList.take m) Try.underlying105 (by rw [hi]; simp [hz1]) hnew (by simp [hlen]) (fun j v hj => (hB3.cell (by rw [had j]; exact lt_of_some hrow2)).trans (hsrc j v hj)) (by simp [hlen, hsz3]) hon]
  have hB4 : Below w2.heap.size w2 ((w2.alloc (.cells (madeCells #[.int .u8 0] m) 5)).setRow w2.heap.size (cur2.toList.take m ++ (madeCells #[.int .u8 0] m).toList.drop (cur2.toList.take m).length).toArray) :=
    hB3.trans ⟨rfl, rfl, rfl, by rw [JR.setRow_size]; exact Nat.le_refl _, fun k hk' => JR.setRow_other (by omega)⟩
  have hss4 := (hB4.block sb (lt_of_some hss2)).trans hss2
  have hg4 := setRow_same (cells := (cur2.toList.take m ++ (madeCells #[.int .u8 0] m).toList.drop (cur2.toList.take m).length).toArray) hnew
  rw [show (cur2.toList.take m ++ (madeCells #[.int .u8 0] m).toList.drop (cur2.toList.take m).length) = (h0 :: (le4 m ++ rest)).map byv from by rw [List.drop_eq_nil_of_le (by rw [hlen]; simp [hsz3]), List.append_nil, hbs]] at hg4
  have hB04 := hB2.trans (hB4.mono (Nat.le_trans hbs0 hB2.size))
  simp only [Result.andThen_ok]
  rw [show (cur2.toList.take m ++ (madeCells #[.int .u8 0] m).toList.drop (cur2.toList.take m).length) = (h0 :: (le4 m ++ rest)).map byv from by rw [List.drop_eq_nil_of_le (by rw [hlen]; simp [hsz3]), List.append_nil, hbs]] at *
  generalize World.setRow _ w2.heap.size _ = w4 at *
  have hbg : base ≤ w2.heap.size := Nat.le_trans hbs0 hB2.size
  clear hsrc hon hB3 hnew hrow2 hmk hss2 hB2 hsz3
  obtain ⟨y, z⟩ := (Rw.refl hss4).cell 4 (by omega)
  have f4 := frozenAt hss4 4
  simp only [Oper.upon]
  go_wp2
  go_end0
  exact ⟨rfl, _, _, hB04, hss4, hbg, hg4, rfl⟩
end Go.Proofs.Ytdhljiediafeoaa
