import Derived.Test.YtdhljiediafeoaaEw
set_option linter.unusedSimpArgs false
set_option linter.unusedVariables false
/-! Search by the r-tree. -/
namespace PF
open Go Go.RowKit JR
def rpre (fa0 fa1 fa2 fa3 N M : Nat) : List Nat := 1 :: (le4 M ++ (0 :: (le8 fa0 ++ (le8 fa1 ++ (le8 fa2 ++ (le8 fa3 ++ [N, 1]))))))
theorem ixby_r (l : List (Int × Int)) (N : Nat) (hN : N ≠ 0) : ixby 1 l N = rpre (fb (rbx l N).1) (fb (rbx l N).2.1) (fb (rbx l N).2.2.1) (fb (rbx l N).2.2.2) N (40 + N) ++ List.range N := by
  have e : (ixrest 1 l N).length + 5 = 40 + N := by
    unfold ixrest tby rbytes
    rw [if_pos rfl, if_neg hN]
    simp [le8_len]
    omega
  unfold ixby
  rw [e]
  unfold ixrest tby rbytes rpre
  rw [if_pos rfl, if_neg hN]
  simp
theorem ixby_r0 (l : List (Int × Int)) : ixby 1 l 0 = [1, 5, 0, 0, 0] := by simp [ixby, ixrest, tby, le4]
theorem datL {u : World} {g j x : Nat} {P : List Nat} {Q : List Nat} {T : TypeId} (h : u.heap[g]? = some (.cells ((P ++ Q).map byv).toArray T (0, 0))) (hj : P[j]? = some x) : u.cell? ⟨g, j, none⟩ = some (byv x) := by
  refine (cellAt h j).trans ?_
  have hl : j < P.length := by
    rcases Nat.lt_or_ge j P.length with h | h
    · exact h
    · rw [List.getElem?_eq_none h] at hj; cases hj
  rw [List.getElem?_toArray, List.getElem?_map, List.getElem?_append_left hl, hj]
  rfl
theorem datR {u : World} {g i n : Nat} {P : List Nat} {N : Nat} {T : TypeId} {Q : List Nat} (h : u.heap[g]? = some (.cells ((P ++ (List.range N ++ Q)).map byv).toArray T (0, 0))) (hP : P.length = n) (hi : i < N) : u.cell? ⟨g, n + i, none⟩ = some (byv i) := by
  refine (cellAt h _).trans ?_
  subst hP
  rw [List.getElem?_toArray, List.getElem?_map, List.getElem?_append_right (by omega), Nat.add_sub_cancel_left, List.getElem?_append_left (by simpa using hi)]
  simp [hi]
end PF
namespace Go.Proofs.Ytdhljiediafeoaa
open Go.RowKit PF JR
theorem IxV.dat {K : Nat} (hK : K ≠ 0) {l : List (Int × Int)} {N lo hi g m : Nat} {u : World} (h : IxV K l N lo hi u (.iface 105 (.slice (some ⟨g, 0, none⟩) m m))) : u.heap[g]? = some (.cells ((ixby K l N).map byv).toArray 5 (0, 0)) ∧ m = (ixby K l N).length := by
  rcases h with ⟨h, -⟩ | ⟨-, g', e, -, -, h⟩
  · exact absurd h hK
  · simp at e
    obtain ⟨rfl, rfl⟩ := e
    exact ⟨h, rfl⟩
theorem getF_c (g o n c x : Nat) (hx : x < 18446744073709551616) (w : World) (hn : 8 ≤ n)
    (c0 : w.cell? ⟨g, o, none⟩ = some (byv (x % 256))) (c1 : w.cell? ⟨g, o + 1, none⟩ = some (byv (x / 256 % 256))) (c2 : w.cell? ⟨g, o + 2, none⟩ = some (byv (x / 65536 % 256))) (c3 : w.cell? ⟨g, o + 3, none⟩ = some (byv (x / 16777216 % 256))) (c4 : w.cell? ⟨g, o + 4, none⟩ = some (byv (x / 4294967296 % 256))) (c5 : w.cell? ⟨g, o + 5, none⟩ = some (byv (x / 1099511627776 % 256))) (c6 : w.cell? ⟨g, o + 6, none⟩ = some (byv (x / 281474976710656 % 256))) (c7 : w.cell? ⟨g, o + 7, none⟩ = some (byv (x / 72057594037927936 % 256))) :
    Calls Try.prog 107 #[.agg #[], .slice (some ⟨g, o, none⟩) n c] w fun e w' => e = .returned (.int .u64 x) ∧ Below w.heap.size w w' := by
  have h := getU64_c g o n c _ _ _ _ _ _ _ _ (by omega) (by omega) (by omega) (by omega) (by omega) (by omega) (by omega) (by omega) w hn c0 c1 c2 c3 c4 c5 c6 c7
  rw [le8_sum x hx] at h
  exact h

set_option maxRecDepth 100000 in
set_option maxHeartbeats 8000000 in
theorem rn_c (F : FuncId) (caps : Array Value) (closed : Bool) (l : List (Int × Int)) (T : TypeId) (lo hi b g m q0 q1 q2 q3 : Nat) (v' : Value) (hit : Nat → Bool) (Inv : Nat → World → Prop) (Stop : World → Prop) (rhit : Bool)
    (H : SrchOk F caps 1 closed l T lo hi b (.iface 105 (.slice (some ⟨g, 0, none⟩) m m)) v' (.agg #[fl q0, fl q1, fl q2, fl q3]) hit Inv Stop)
    (hN0 : nSeg closed l ≠ 0) (hroot : ∀ u, Calls Try.prog 19 #[.agg #[fl q0, fl q1, fl q2, fl q3], .agg #[fl (fb (rbx l (nSeg closed l)).1), fl (fb (rbx l (nSeg closed l)).2.1), fl (fb (rbx l (nSeg closed l)).2.2.1), fl (fb (rbx l (nSeg closed l)).2.2.2)]] u fun e u' => e = .returned (.bool rhit) ∧ Below u.heap.size u u')
    (hpr : rhit = false → ∀ k, k < nSeg closed l → hit k = false) (w : World) (h0 : Inv 0 w) :
    Calls Try.prog 104 #[.slice (some ⟨g, 0, none⟩) m m, .int .i64 6, .pointer (some ⟨b, 0, none⟩), .agg #[fl q0, fl q1, fl q2, fl q3], .int .i64 0, .func (.func F) #[] caps] w fun e w' => ∃ c : Bool, e = .returned (.bool c) ∧ (c = true → Inv (nSeg closed l) w') ∧ (c = false → Stop w') := by
  have hN12 := Nat.le_trans (nSeg_le closed l) H.len
  have hrd := rbx_bd H.bnd (nSeg closed l)
  have hdat : ∀ k u, Inv k u → u.heap[g]? = some (.cells ((rpre (fb (rbx l (nSeg closed l)).1) (fb (rbx l (nSeg closed l)).2.1) (fb (rbx l (nSeg closed l)).2.2.1) (fb (rbx l (nSeg closed l)).2.2.2) (nSeg closed l) (40 + nSeg closed l) ++ List.range (nSeg closed l)).map byv).toArray 5 (0, 0)) ∧ m = 40 + nSeg closed l := by
    intro k u hI
    obtain ⟨h1, h2⟩ := IxV.dat (by decide) (H.ser k u hI).1
    rw [ixby_r l _ hN0] at h1 h2
    refine ⟨h1, ?_⟩
    rw [h2, List.length_append, List.length_range]
    rfl
  have hm : JR.StopN (m = 40 + nSeg closed l) := ⟨(hdat 0 w h0).2⟩
  have hfa0 := fb_lt _ hrd.1
  have hfa1 := fb_lt _ hrd.2.1
  have hfa2 := fb_lt _ hrd.2.2.1
  have hfa3 := fb_lt _ hrd.2.2.2
  generalize hN : nSeg closed l = N at *
  generalize fb (rbx l N).1 = fa0 at *
  generalize fb (rbx l N).2.1 = fa1 at *
  generalize fb (rbx l N).2.2.1 = fa2 at *
  generalize fb (rbx l N).2.2.2 = fa3 at *
  clear hrd
  have hB1 := ((Below.refl w.heap.size w).alloc (Nat.le_refl _) (.cells #[fl q0, fl q1, fl q2, fl q3] 53)).alloc (by simp) (.cells #[fl 0, fl 0, fl 0, fl 0] 53)
  have st := ((Blk.nil w).push rfl #[fl q0, fl q1, fl q2, fl q3] 53).push (b := w.heap.size + 1) (by simp) #[fl 0, fl 0, fl 0, fl 0] 53
  have hgl : g < w.heap.size := lt_of_some (hdat 0 w h0).1
  have hff := f64from
  have hm40 : 40 ≤ m := by have := hm.out; omega
  have n1 : m ≠ 6 := by omega
  have n2 : m ≠ 14 := by omega
  have n3 : m ≠ 22 := by omega
  have n4 : m ≠ 30 := by omega
  have j1 : (6 : Int) ≤ (m : Int) := by omega
  have j2 : (14 : Int) ≤ (m : Int) := by omega
  have j3 : (22 : Int) ≤ (m : Int) := by omega
  have j4 : (30 : Int) ≤ (m : Int) := by omega
  go_enter Try.func104, Try.ntmps104
  go_wp2_with (with_reducible refine stop_region ?_)
  refine ⟨?_⟩
  have R9 := st.known 1 _ rfl
  have R13 := st.known 0 _ rfl
  have B := st.hb
  have D := (B.block g hgl).trans (hdat 0 w h0).1
  clear st hB1
  generalize hb13 : w.heap.size + 1 = b13 at *
  have hb9 : w.heap.size < b13 := by omega
  have hgb : g ≠ b13 := by omega
  generalize ((w.alloc _).alloc _) = W at *
  refine wp_region_K [b13] [.val (.agg #[]), .val (.slice (some ⟨g, 0, none⟩) m m), .val (.int .i64 6), .val (.slice (some ⟨g, 6, none⟩) (m - 6) (m - 6)), .val (.int .u64 fa0), .val (fl fa0), .val (.pointer (some ⟨b13, 0, none⟩)), .val (.pointer (some ⟨b13, 0, none⟩)), .turnS b13 #[fl 0, fl 0, fl 0, fl 0] 0 27 53]
    [[], [.ini 0], [.ini 1], [.frm 1 23, .frm 2 24], [.frm 0 22, .frm 3 25], [.frm 4 26], [.ini 13], [.frm 6 28], [.frm 7 29, .frm 5 27, .til 8]]
    mixed (by kernel_rfl) (by kernel_rfl) (allPre_of ⟨trivial, trivial, trivial, trivial, trivial, trivial, trivial, trivial, R13, trivial⟩)
    ⟨OpOk.quiet rfl ?_, OpOk.quiet rfl ?_, OpOk.quiet rfl ?_, OpOk.quiet rfl ?_, OpOk.call rfl ?_, OpOk.quiet rfl ?_, OpOk.quiet rfl ?_, OpOk.quiet rfl ?_,
     OpOk.turnS rfl rfl (lt_of_some R13) ⟨row_still rfl, row_still rfl, row_still rfl, row_still rfl, row_still rfl, row_still rfl, row_still rfl, row_still rfl, row_self rfl, trivial⟩
       (oldFree_of ⟨.inr (fun h => (nomatch h)), .inr (fun h => (nomatch h)), .inr (fun h => (nomatch h)), .inr (fun h => (nomatch h)), .inr (fun h => (nomatch h)), .inr (fun h => (nomatch h)), .inr (fun h => (nomatch h)), .inr (fun h => (nomatch h)), .inl rfl, trivial⟩) (by kernel_rfl) (by simp) ?_ (fun _ _ h => Keep.setRow h (.inr (by simp))), trivial⟩ ?_
  · intro a u _ _
    go_simp
  · intro a u _ hf
    simp [facts, Need.fact, Act.eval] at hf
    go_simp
  · intro a u _ hf
    simp [facts, Need.fact, Act.eval] at hf
    go_simp
  · intro a u _ hf
    simp [facts, Need.fact, Ent.val, Act.eval] at hf
    go_simp
  · intro a u hG hf
    simp [facts, Need.fact, Ent.val, Act.eval] at hf
    have hd := (hG.block g (lt_of_some D) (by simp; omega)).trans D
    refine ⟨_, _, by go_simp, (getF_c g 6 (m - 6) (m - 6) fa0 hfa0 u (by omega) (datL hd rfl) (datL hd rfl) (datL hd rfl) (datL hd rfl) (datL hd rfl) (datL hd rfl) (datL hd rfl) (datL hd rfl)).mono ?_⟩
    rintro e w' ⟨rfl, hb⟩
    exact ⟨_, rfl, hb, rfl⟩
  · intro a u _ hf
    simp [facts, Need.fact, Ent.val, Act.eval] at hf
    go_simp
  · intro a u _ hf
    simp [facts, Need.fact, Act.eval] at hf
    go_simp
  · intro a u _ hf
    simp [facts, Need.fact, Ent.val, Act.eval] at hf
    go_simp
  · intro a u _ hf
    obtain ⟨⟨_, _, f1⟩, ⟨_, _, f2⟩, f4, -⟩ := hf
    exact ⟨f1, by rw [show a.eval (.tmp 27) = fl fa0 from f2]; rfl, f4⟩
  intro uu l' h' wc hK hE hI hD
  obtain ⟨v0, v1, v2, v3, v4, v5, v6, v7, e9, -⟩ := hE
  replace v0 : uu 0 = .agg #[] := v0
  replace v1 : uu 1 = .slice (some ⟨g, 0, none⟩) m m := v1
  replace v2 : uu 2 = .int .i64 6 := v2
  replace v3 : uu 3 = .slice (some ⟨g, 6, none⟩) (m - 6) (m - 6) := v3
  replace v4 : uu 4 = .int .u64 fa0 := v4
  replace v5 : uu 5 = fl fa0 := v5
  replace v6 : uu 6 = .pointer (some ⟨b13, 0, none⟩) := v6
  replace v7 : uu 7 = .pointer (some ⟨b13, 0, none⟩) := v7
  simp [Ent.turnS, allPut, Act.put, Act.eval, Array.setIfInBounds, v5] at e9
  replace R9 := (hK.block w.heap.size (lt_of_some R9) (by simp; omega)).trans R9
  replace D := (hK.block g (lt_of_some D) (by simp; omega)).trans D
  replace B := Keep.belowX (B := w.heap.size) hK B B.size (by intro x hx; simp at hx; omega)
  replace R13 : wc.heap[b13]? = some (.cells #[fl fa0, fl 0, fl 0, fl 0] 53 (0, 0)) := e9
  simp only [allPut, Act.put, v0, v1, v2, v3, v4, v5, v6, v7]
  try simp only [List.setIfInBounds_toArray, List.set_cons_zero, List.set_cons_succ]
  generalize uu 8 = x8
  clear v0 v1 v2 v3 v4 v5 v6 v7 e9 hK hI hD
  go_wp2_with (with_reducible refine stop_region ?_)
  refine ⟨?_⟩
  refine wp_region_K [b13] [.val (.agg #[]), .val (.slice (some ⟨g, 0, none⟩) m m), .val (.int .i64 14), .val (.slice (some ⟨g, 14, none⟩) (m - 14) (m - 14)), .val (.int .u64 fa1), .val (fl fa1), .val (.pointer (some ⟨b13, 0, none⟩)), .val (.pointer (some ⟨b13, 1, none⟩)), .turnS b13 #[fl fa0, fl 0, fl 0, fl 0] 1 37 53]
    [[], [.ini 0], [.ini 1], [.frm 1 33, .frm 2 34], [.frm 0 32, .frm 3 35], [.frm 4 36], [.ini 13], [.frm 6 38], [.frm 7 39, .frm 5 37, .til 8]]
    mixed (by kernel_rfl) (by kernel_rfl) (allPre_of ⟨trivial, trivial, trivial, trivial, trivial, trivial, trivial, trivial, R13, trivial⟩)
    ⟨OpOk.quiet rfl ?_, OpOk.quiet rfl ?_, OpOk.quiet rfl ?_, OpOk.quiet rfl ?_, OpOk.call rfl ?_, OpOk.quiet rfl ?_, OpOk.quiet rfl ?_, OpOk.quiet rfl ?_,
     OpOk.turnS rfl rfl (lt_of_some R13) ⟨row_still rfl, row_still rfl, row_still rfl, row_still rfl, row_still rfl, row_still rfl, row_still rfl, row_still rfl, row_self rfl, trivial⟩
       (oldFree_of ⟨.inr (fun h => (nomatch h)), .inr (fun h => (nomatch h)), .inr (fun h => (nomatch h)), .inr (fun h => (nomatch h)), .inr (fun h => (nomatch h)), .inr (fun h => (nomatch h)), .inr (fun h => (nomatch h)), .inr (fun h => (nomatch h)), .inl rfl, trivial⟩) (by kernel_rfl) (by simp) ?_ (fun _ _ h => Keep.setRow h (.inr (by simp))), trivial⟩ ?_
  · intro a u _ _
    go_simp
  · intro a u _ hf
    simp [facts, Need.fact, Act.eval] at hf
    go_simp
  · intro a u _ hf
    simp [facts, Need.fact, Act.eval] at hf
    go_simp
  · intro a u _ hf
    simp [facts, Need.fact, Ent.val, Act.eval] at hf
    go_simp
  · intro a u hG hf
    simp [facts, Need.fact, Ent.val, Act.eval] at hf
    have hd := (hG.block g (lt_of_some D) (by simp; omega)).trans D
    refine ⟨_, _, by go_simp, (getF_c g 14 (m - 14) (m - 14) fa1 hfa1 u (by omega) (datL hd rfl) (datL hd rfl) (datL hd rfl) (datL hd rfl) (datL hd rfl) (datL hd rfl) (datL hd rfl) (datL hd rfl)).mono ?_⟩
    rintro e w' ⟨rfl, hb⟩
    exact ⟨_, rfl, hb, rfl⟩
  · intro a u _ hf
    simp [facts, Need.fact, Ent.val, Act.eval] at hf
    go_simp
  · intro a u _ hf
    simp [facts, Need.fact, Act.eval] at hf
    go_simp
  · intro a u _ hf
    simp [facts, Need.fact, Ent.val, Act.eval] at hf
    go_simp
  · intro a u _ hf
    obtain ⟨⟨_, _, f1⟩, ⟨_, _, f2⟩, f4, -⟩ := hf
    exact ⟨f1, by rw [show a.eval (.tmp 37) = fl fa1 from f2]; rfl, f4⟩
  intro uu l' h' wc hK hE hI hD
  obtain ⟨v0, v1, v2, v3, v4, v5, v6, v7, e9, -⟩ := hE
  replace v0 : uu 0 = .agg #[] := v0
  replace v1 : uu 1 = .slice (some ⟨g, 0, none⟩) m m := v1
  replace v2 : uu 2 = .int .i64 14 := v2
  replace v3 : uu 3 = .slice (some ⟨g, 14, none⟩) (m - 14) (m - 14) := v3
  replace v4 : uu 4 = .int .u64 fa1 := v4
  replace v5 : uu 5 = fl fa1 := v5
  replace v6 : uu 6 = .pointer (some ⟨b13, 0, none⟩) := v6
  replace v7 : uu 7 = .pointer (some ⟨b13, 1, none⟩) := v7
  simp [Ent.turnS, allPut, Act.put, Act.eval, Array.setIfInBounds, v5] at e9
  replace R9 := (hK.block w.heap.size (lt_of_some R9) (by simp; omega)).trans R9
  replace D := (hK.block g (lt_of_some D) (by simp; omega)).trans D
  replace B := Keep.belowX (B := w.heap.size) hK B B.size (by intro x hx; simp at hx; omega)
  replace R13 : wc.heap[b13]? = some (.cells #[fl fa0, fl fa1, fl 0, fl 0] 53 (0, 0)) := e9
  simp only [allPut, Act.put, v0, v1, v2, v3, v4, v5, v6, v7]
  try simp only [List.setIfInBounds_toArray, List.set_cons_zero, List.set_cons_succ]
  generalize uu 8 = x8
  clear v0 v1 v2 v3 v4 v5 v6 v7 e9 hK hI hD
  go_wp2_with (with_reducible refine stop_region ?_)
  refine ⟨?_⟩
  refine wp_region_K [b13] [.val (.agg #[]), .val (.slice (some ⟨g, 0, none⟩) m m), .val (.int .i64 22), .val (.slice (some ⟨g, 22, none⟩) (m - 22) (m - 22)), .val (.int .u64 fa2), .val (fl fa2), .val (.pointer (some ⟨b13, 2, none⟩)), .val (.pointer (some ⟨b13, 2, none⟩)), .turnS b13 #[fl fa0, fl fa1, fl 0, fl 0] 2 47 53]
    [[], [.ini 0], [.ini 1], [.frm 1 43, .frm 2 44], [.frm 0 42, .frm 3 45], [.frm 4 46], [.ini 13], [.frm 6 48], [.frm 7 49, .frm 5 47, .til 8]]
    mixed (by kernel_rfl) (by kernel_rfl) (allPre_of ⟨trivial, trivial, trivial, trivial, trivial, trivial, trivial, trivial, R13, trivial⟩)
    ⟨OpOk.quiet rfl ?_, OpOk.quiet rfl ?_, OpOk.quiet rfl ?_, OpOk.quiet rfl ?_, OpOk.call rfl ?_, OpOk.quiet rfl ?_, OpOk.quiet rfl ?_, OpOk.quiet rfl ?_,
     OpOk.turnS rfl rfl (lt_of_some R13) ⟨row_still rfl, row_still rfl, row_still rfl, row_still rfl, row_still rfl, row_still rfl, row_still rfl, row_still rfl, row_self rfl, trivial⟩
       (oldFree_of ⟨.inr (fun h => (nomatch h)), .inr (fun h => (nomatch h)), .inr (fun h => (nomatch h)), .inr (fun h => (nomatch h)), .inr (fun h => (nomatch h)), .inr (fun h => (nomatch h)), .inr (fun h => (nomatch h)), .inr (fun h => (nomatch h)), .inl rfl, trivial⟩) (by kernel_rfl) (by simp) ?_ (fun _ _ h => Keep.setRow h (.inr (by simp))), trivial⟩ ?_
  · intro a u _ _
    go_simp
  · intro a u _ hf
    simp [facts, Need.fact, Act.eval] at hf
    go_simp
  · intro a u _ hf
    simp [facts, Need.fact, Act.eval] at hf
    go_simp
  · intro a u _ hf
    simp [facts, Need.fact, Ent.val, Act.eval] at hf
    go_simp
  · intro a u hG hf
    simp [facts, Need.fact, Ent.val, Act.eval] at hf
    have hd := (hG.block g (lt_of_some D) (by simp; omega)).trans D
    refine ⟨_, _, by go_simp, (getF_c g 22 (m - 22) (m - 22) fa2 hfa2 u (by omega) (datL hd rfl) (datL hd rfl) (datL hd rfl) (datL hd rfl) (datL hd rfl) (datL hd rfl) (datL hd rfl) (datL hd rfl)).mono ?_⟩
    rintro e w' ⟨rfl, hb⟩
    exact ⟨_, rfl, hb, rfl⟩
  · intro a u _ hf
    simp [facts, Need.fact, Ent.val, Act.eval] at hf
    go_simp
  · intro a u _ hf
    simp [facts, Need.fact, Act.eval] at hf
    go_simp
  · intro a u _ hf
    simp [facts, Need.fact, Ent.val, Act.eval] at hf
    go_simp
  · intro a u _ hf
    obtain ⟨⟨_, _, f1⟩, ⟨_, _, f2⟩, f4, -⟩ := hf
    exact ⟨f1, by rw [show a.eval (.tmp 47) = fl fa2 from f2]; rfl, f4⟩
  intro uu l' h' wc hK hE hI hD
  obtain ⟨v0, v1, v2, v3, v4, v5, v6, v7, e9, -⟩ := hE
  replace v0 : uu 0 = .agg #[] := v0
  replace v1 : uu 1 = .slice (some ⟨g, 0, none⟩) m m := v1
  replace v2 : uu 2 = .int .i64 22 := v2
  replace v3 : uu 3 = .slice (some ⟨g, 22, none⟩) (m - 22) (m - 22) := v3
  replace v4 : uu 4 = .int .u64 fa2 := v4
  replace v5 : uu 5 = fl fa2 := v5
  replace v6 : uu 6 = .pointer (some ⟨b13, 2, none⟩) := v6
  replace v7 : uu 7 = .pointer (some ⟨b13, 2, none⟩) := v7
  simp [Ent.turnS, allPut, Act.put, Act.eval, Array.setIfInBounds, v5] at e9
  replace R9 := (hK.block w.heap.size (lt_of_some R9) (by simp; omega)).trans R9
  replace D := (hK.block g (lt_of_some D) (by simp; omega)).trans D
  replace B := Keep.belowX (B := w.heap.size) hK B B.size (by intro x hx; simp at hx; omega)
  replace R13 : wc.heap[b13]? = some (.cells #[fl fa0, fl fa1, fl fa2, fl 0] 53 (0, 0)) := e9
  simp only [allPut, Act.put, v0, v1, v2, v3, v4, v5, v6, v7]
  try simp only [List.setIfInBounds_toArray, List.set_cons_zero, List.set_cons_succ]
  generalize uu 8 = x8
  clear v0 v1 v2 v3 v4 v5 v6 v7 e9 hK hI hD
  go_wp2_with (with_reducible refine stop_region ?_)
  refine ⟨?_⟩
  refine wp_region_K [b13] [.val (.agg #[]), .val (.slice (some ⟨g, 0, none⟩) m m), .val (.int .i64 30), .val (.slice (some ⟨g, 30, none⟩) (m - 30) (m - 30)), .val (.int .u64 fa3), .val (fl fa3), .val (.pointer (some ⟨b13, 2, none⟩)), .val (.pointer (some ⟨b13, 3, none⟩)), .turnS b13 #[fl fa0, fl fa1, fl fa2, fl 0] 3 57 53]
    [[], [.ini 0], [.ini 1], [.frm 1 53, .frm 2 54], [.frm 0 52, .frm 3 55], [.frm 4 56], [.ini 13], [.frm 6 58], [.frm 7 59, .frm 5 57, .til 8]]
    mixed (by kernel_rfl) (by kernel_rfl) (allPre_of ⟨trivial, trivial, trivial, trivial, trivial, trivial, trivial, trivial, R13, trivial⟩)
    ⟨OpOk.quiet rfl ?_, OpOk.quiet rfl ?_, OpOk.quiet rfl ?_, OpOk.quiet rfl ?_, OpOk.call rfl ?_, OpOk.quiet rfl ?_, OpOk.quiet rfl ?_, OpOk.quiet rfl ?_,
     OpOk.turnS rfl rfl (lt_of_some R13) ⟨row_still rfl, row_still rfl, row_still rfl, row_still rfl, row_still rfl, row_still rfl, row_still rfl, row_still rfl, row_self rfl, trivial⟩
       (oldFree_of ⟨.inr (fun h => (nomatch h)), .inr (fun h => (nomatch h)), .inr (fun h => (nomatch h)), .inr (fun h => (nomatch h)), .inr (fun h => (nomatch h)), .inr (fun h => (nomatch h)), .inr (fun h => (nomatch h)), .inr (fun h => (nomatch h)), .inl rfl, trivial⟩) (by kernel_rfl) (by simp) ?_ (fun _ _ h => Keep.setRow h (.inr (by simp))), trivial⟩ ?_
  · intro a u _ _
    go_simp
  · intro a u _ hf
    simp [facts, Need.fact, Act.eval] at hf
    go_simp
  · intro a u _ hf
    simp [facts, Need.fact, Act.eval] at hf
    go_simp
  · intro a u _ hf
    simp [facts, Need.fact, Ent.val, Act.eval] at hf
    go_simp
  · intro a u hG hf
    simp [facts, Need.fact, Ent.val, Act.eval] at hf
    have hd := (hG.block g (lt_of_some D) (by simp; omega)).trans D
    refine ⟨_, _, by go_simp, (getF_c g 30 (m - 30) (m - 30) fa3 hfa3 u (by omega) (datL hd rfl) (datL hd rfl) (datL hd rfl) (datL hd rfl) (datL hd rfl) (datL hd rfl) (datL hd rfl) (datL hd rfl)).mono ?_⟩
    rintro e w' ⟨rfl, hb⟩
    exact ⟨_, rfl, hb, rfl⟩
  · intro a u _ hf
    simp [facts, Need.fact, Ent.val, Act.eval] at hf
    go_simp
  · intro a u _ hf
    simp [facts, Need.fact, Act.eval] at hf
    go_simp
  · intro a u _ hf
    simp [facts, Need.fact, Ent.val, Act.eval] at hf
    go_simp
  · intro a u _ hf
    obtain ⟨⟨_, _, f1⟩, ⟨_, _, f2⟩, f4, -⟩ := hf
    exact ⟨f1, by rw [show a.eval (.tmp 57) = fl fa3 from f2]; rfl, f4⟩
  intro uu l' h' wc hK hE hI hD
  obtain ⟨v0, v1, v2, v3, v4, v5, v6, v7, e9, -⟩ := hE
  replace v0 : uu 0 = .agg #[] := v0
  replace v1 : uu 1 = .slice (some ⟨g, 0, none⟩) m m := v1
  replace v2 : uu 2 = .int .i64 30 := v2
  replace v3 : uu 3 = .slice (some ⟨g, 30, none⟩) (m - 30) (m - 30) := v3
  replace v4 : uu 4 = .int .u64 fa3 := v4
  replace v5 : uu 5 = fl fa3 := v5
  replace v6 : uu 6 = .pointer (some ⟨b13, 2, none⟩) := v6
  replace v7 : uu 7 = .pointer (some ⟨b13, 3, none⟩) := v7
  simp [Ent.turnS, allPut, Act.put, Act.eval, Array.setIfInBounds, v5] at e9
  replace R9 := (hK.block w.heap.size (lt_of_some R9) (by simp; omega)).trans R9
  replace D := (hK.block g (lt_of_some D) (by simp; omega)).trans D
  replace B := Keep.belowX (B := w.heap.size) hK B B.size (by intro x hx; simp at hx; omega)
  replace R13 : wc.heap[b13]? = some (.cells #[fl fa0, fl fa1, fl fa2, fl fa3] 53 (0, 0)) := e9
  simp only [allPut, Act.put, v0, v1, v2, v3, v4, v5, v6, v7]
  try simp only [List.setIfInBounds_toArray, List.set_cons_zero, List.set_cons_succ]
  generalize uu 8 = x8
  clear v0 v1 v2 v3 v4 v5 v6 v7 e9 hK hI hD
  have I3 : Inv 0 wc := H.ext 0 w wc h0 B
  have hb13l := lt_of_some R13
  have hP38 : ∀ k u, Inv k u → u.cell? ⟨g, 38, none⟩ = some (.int .u8 N) ∧ u.cell? ⟨g, 39, none⟩ = some (.int .u8 (1 : Nat)) ∧ ∀ i, i < N → u.cell? ⟨g, 40 + i, none⟩ = some (.int .u8 i) := by
    intro k u hI
    have hd := (hdat k u hI).1
    refine ⟨datL hd rfl, datL hd rfl, fun i hi => ?_⟩
    have hd' : u.heap[g]? = some (.cells ((rpre fa0 fa1 fa2 fa3 N (40 + N) ++ (List.range N ++ [])).map byv).toArray 5 (0, 0)) := by rw [List.append_nil]; exact hd
    exact datR hd' rfl hi
  have Y0 := cellAt R9 0
  have Y1 := cellAt R9 1
  have Y2 := cellAt R9 2
  have Y3 := cellAt R9 3
  have Z0 := cellAt R13 0
  have Z1 := cellAt R13 1
  have Z2 := cellAt R13 2
  have Z3 := cellAt R13 3
  simp only [List.getElem?_toArray, List.getElem?_cons_zero, List.getElem?_cons_succ] at Y0 Y1 Y2 Y3 Z0 Z1 Z2 Z3
  clear D R13 hfa0 hfa1 hfa2 hfa3 hgb hff n1 n2 n3 n4 j1 j2 j3 j4 x8
  go_wp2_with (go_at_call 19; refine JR.StopN.out ?_)
  refine ⟨?_⟩
  refine (hroot wc).mono ?_
  rintro e w3 ⟨rfl, hb3⟩
  have I4 := H.ext 0 _ _ I3 hb3
  have R4 := (hb3.block _ (lt_of_some R9)).trans R9
  clear hb3 I3 R9 Y0 Y1 Y2 Y3 Z0 Z1 Z2 Z3 hroot hb13l B
  cases rhit with
  | false =>
    have hsk : ∀ k, k ≤ N → Inv k w3 := by
      intro k
      induction k with
      | zero => intro _; exact I4
      | succ k ih => intro hk; exact H.skip k _ (by omega) (hpr rfl k (by omega)) (ih (by omega))
    clear hP38
    go_wp2
    go_ret
    exact ⟨true, rfl, fun _ => hsk N (Nat.le_refl _), fun h => (nomatch h)⟩
  | true =>
    obtain ⟨p38, p39, -⟩ := hP38 0 _ I4
    have k38 : (38 : Int) < (m : Int) := by omega
    have k39 : (39 : Int) < (m : Int) := by have := hm.out; omega
    generalize hrb : w.heap.size = rb at *
    go_wp2
    go_loopw [1, 16] (fun ad i wr => ∃ k : Nat, k ≤ N ∧ ad = .int .i64 (40 + k : Nat) ∧ i = .int .i64 k ∧ Inv k wr ∧ wr.heap[rb]? = some (.cells #[fl q0, fl q1, fl q2, fl q3] 53 (0, 0))) (fun _ i _ => N - (intOf i).toNat)
    case atStart => exact ⟨0, Nat.zero_le _, rfl, rfl, I4, R4⟩
    case round =>
      clear I4 R4 p38 p39 h0 hdat
      obtain ⟨k, hk, rfl, rfl, I5, R5⟩ := hrel
      rcases Nat.lt_or_ge k N with hlt | hge
      · have hlt' : (k : Int) < (N : Int) := by omega
        have hm' := hm.out
        have a1 : ((40 + k : Nat) : Int) ≤ (m : Int) := by omega
        have a2 : m ≠ 40 + k := by omega
        have p40 := (hP38 k _ I5).2.2 k hlt
        have hrn := readNum_c g (40 + k) (m - (40 + k)) (m - (40 + k)) k (by omega) wr (by omega) p40
        clear hm'
        generalize hak : 40 + k = ak at *
        replace hak : JR.StopN (40 + k = ak) := ⟨hak⟩
        go_wp2_with (go_at_call 105; refine JR.StopN.out ?_)
        refine ⟨?_⟩
        refine hrn.mono ?_
        rintro e w6 ⟨rfl, rfl⟩
        have hsg := sgat_x (H.skp I5) (by have := H.len; omega) k (by omega)
        have hak2 : ((ak : Int) + 1) = ((40 + (k + 1) : Nat) : Int) := by have := hak.out; omega
        have akb : ak ≤ 60 := by have := hak.out; omega
        generalize hak3 : 40 + (k + 1) = ak1 at *
        clear hrn p40
        go_wp2_with (go_at_call 42; refine JR.StopN.out ?_)
        refine ⟨?_⟩
        refine hsg.mono ?_
        rintro e w7 ⟨rfl, hb7⟩
        have I7 := H.ext k _ _ I5 hb7
        have R7 := (hb7.block _ (lt_of_some R5)).trans R5
        clear hsg I5 R5 hb7
        unfold sgv
        have hal := (Below.refl w7.heap.size w7).alloc (Nat.le_refl _) (.cells #[fl (fb (at' l k).1), fl (fb (at' l k).2), fl (fb (nxp l k).1), fl (fb (nxp l k).2)] 56)
        have V8 := heap_alloc_new w7 (.cells #[fl (fb (at' l k).1), fl (fb (at' l k).2), fl (fb (nxp l k).1), fl (fb (nxp l k).2)] 56)
        have I8 := H.ext k _ _ I7 hal
        have R8 := (hal.block _ (lt_of_some R7)).trans R7
        clear I7 R7 hal
        go_wp2_with (go_at_call 43; refine JR.StopN.out ?_)
        refine ⟨?_⟩
        refine (sgr_x l H.bnd k _).mono ?_
        rintro e w9 ⟨rfl, hb9⟩
        have hal := (Below.refl w9.heap.size w9).alloc (Nat.le_refl _) (.cells #[fl (fb (sgx l k).1), fl (fb (sgx l k).2.1), fl (fb (sgx l k).2.2.1), fl (fb (sgx l k).2.2.2)] 53)
        have hh := hb9.trans (hal.mono hb9.size)
        have I10 := H.ext k _ _ I8 hh
        have R10 := (hh.block _ (lt_of_some R8)).trans R8
        have V10 := (hh.block _ (lt_of_some V8)).trans V8
        have U10 := heap_alloc_new w9 (.cells #[fl (fb (sgx l k).1), fl (fb (sgx l k).2.1), fl (fb (sgx l k).2.2.1), fl (fb (sgx l k).2.2.2)] 53)
        clear hb9 hal hh I8 R8 V8
        have Y0 := cellAt R10 0
        have Y1 := cellAt R10 1
        have Y2 := cellAt R10 2
        have Y3 := cellAt R10 3
        simp only [List.getElem?_toArray, List.getElem?_cons_zero, List.getElem?_cons_succ] at Y0 Y1 Y2 Y3
        generalize hsx0 : fb (sgx l k).1 = s0 at *
        generalize hsx1 : fb (sgx l k).2.1 = s1 at *
        generalize hsx2 : fb (sgx l k).2.2.1 = s2 at *
        generalize hsx3 : fb (sgx l k).2.2.2 = s3 at *
        have hmt := H.meet k (w9.alloc (.cells #[fl s0, fl s1, fl s2, fl s3] 53)) (by omega)
        rw [hsx0, hsx1, hsx2, hsx3] at hmt
        clear hsx0 hsx1 hsx2 hsx3
        go_wp2_with (go_at_call 19; refine JR.StopN.out ?_)
        refine ⟨?_⟩
        refine hmt.mono ?_
        rintro e w11 ⟨rfl, hb11⟩
        have I11 := H.ext k _ _ I10 hb11
        have R11 := (hb11.block _ (lt_of_some R10)).trans R10
        have V11 := (hb11.block _ (lt_of_some V10)).trans V10
        clear hmt hb11 I10 R10 V10 U10 Y0 Y1 Y2 Y3
        have W0 := cellAt V11 0
        have W1 := cellAt V11 1
        have W2 := cellAt V11 2
        have W3 := cellAt V11 3
        simp only [List.getElem?_toArray, List.getElem?_cons_zero, List.getElem?_cons_succ] at W0 W1 W2 W3
        generalize hh : hit k = h at *
        cases h with
        | false =>
          have I7 := H.skip k _ (by omega) hh I11
          clear hh
          go_wp2
          go_roundw
          case rel => exact ⟨k + 1, by omega, by rw [hak3, ← hak2], by go_num, I7, R11⟩
          case measure => simp [intOf]; omega
        | true =>
          have hst := H.step k _ (by omega) hh I11
          clear hh
          unfold sgv at hst
          go_wp2
          rw [H.ent, Oper.upon_enter]
          refine hst.mono ?_
          rintro e w12 ⟨c, rfl, hi, hs, hk7⟩
          have R12 := hk7.2 _ _ _ (.inl rfl) R11
          clear hst hk7 I11 R11 V11 W0 W1 W2 W3
          cases c with
          | true =>
            have I7 := hi rfl
            clear hi hs
            go_wp2
            go_roundw
            case rel => exact ⟨k + 1, by omega, by rw [hak3, ← hak2], by go_num, I7, R12⟩
            case measure => simp [intOf]; omega
          | false =>
            have S7 := hs rfl
            clear hi hs
            go_wp2
            go_ret
            exact ⟨false, rfl, fun h => (nomatch h), fun _ => S7⟩
      · have hkk : k = N := by omega
        subst hkk
        clear hP38
        go_wp2
        go_ret
        exact ⟨true, rfl, fun _ => I5, fun h => (nomatch h)⟩

theorem SrchOk.all {F : FuncId} {caps : Array Value} {K : Nat} {closed : Bool} {l : List (Int × Int)} {T : TypeId} {lo hi b : Nat} {ix v' q : Value} {hit : Nat → Bool} {Inv : Nat → World → Prop} {Stop : World → Prop} (H : SrchOk F caps K closed l T lo hi b ix v' q hit Inv Stop) (hno : ∀ k, k < nSeg closed l → hit k = false) {u : World} (h : Inv 0 u) : ∀ k, k ≤ nSeg closed l → Inv k u := by
  intro k
  induction k with
  | zero => intro _; exact h
  | succ k ih => intro hk; exact H.skip k _ (by omega) (hno k (by omega)) (ih (by omega))
set_option maxRecDepth 100000 in
set_option maxHeartbeats 8000000 in
theorem rc_c (F : FuncId) (caps : Array Value) (closed : Bool) (l : List (Int × Int)) (T : TypeId) (lo hi b g m q0 q1 q2 q3 : Nat) (v' : Value) (hit : Nat → Bool) (Inv : Nat → World → Prop) (Stop : World → Prop) (rhit : Bool)
    (H : SrchOk F caps 1 closed l T lo hi b (.iface 105 (.slice (some ⟨g, 0, none⟩) m m)) v' (.agg #[fl q0, fl q1, fl q2, fl q3]) hit Inv Stop)
    (hroot : nSeg closed l ≠ 0 → ∀ u, Calls Try.prog 19 #[.agg #[fl q0, fl q1, fl q2, fl q3], .agg #[fl (fb (rbx l (nSeg closed l)).1), fl (fb (rbx l (nSeg closed l)).2.1), fl (fb (rbx l (nSeg closed l)).2.2.1), fl (fb (rbx l (nSeg closed l)).2.2.2)]] u fun e u' => e = .returned (.bool rhit) ∧ Below u.heap.size u u')
    (hpr : rhit = false → ∀ k, k < nSeg closed l → hit k = false) (w : World) (h0 : Inv 0 w) :
    Calls Try.prog 102 #[.slice (some ⟨g, 0, none⟩) m m, .int .i64 5, .pointer (some ⟨b, 0, none⟩), .agg #[fl q0, fl q1, fl q2, fl q3], .func (.func F) #[] caps] w fun e w' => ∃ c : Bool, e = .returned (.bool c) ∧ (c = true → Inv (nSeg closed l) w') ∧ (c = false → Stop w') := by
  have hb1 := (Below.refl w.heap.size w).alloc (Nat.le_refl _) (.cells #[fl q0, fl q1, fl q2, fl q3] 53)
  have I1 := H.ext 0 _ _ h0 hb1
  have R1 := heap_alloc_new w (.cells #[fl q0, fl q1, fl q2, fl q3] 53)
  obtain ⟨d1, d2⟩ := IxV.dat (by decide) (H.ser 0 _ I1).1
  by_cases hN0 : nSeg closed l = 0
  · rw [hN0] at d2
    rw [ixby_r0] at d2
    have d3 : m = 5 := d2
    clear d1 d2 hb1 R1
    subst d3
    go_enter Try.func102, Try.ntmps102
    go_wp2
    go_ret
    exact ⟨true, rfl, fun _ => by rw [hN0]; exact I1, fun h => (nomatch h)⟩
  · have hrn := fun w h => rn_c F caps closed l T lo hi b g m q0 q1 q2 q3 v' hit Inv Stop rhit H hN0 (hroot hN0) hpr w h
    rw [ixby_r _ _ hN0] at d1 d2
    have p5 : (w.alloc (.cells #[fl q0, fl q1, fl q2, fl q3] 53)).cell? ⟨g, 5, none⟩ = some (.int .u8 (0 : Nat)) := datL d1 rfl
    have hm : JR.StopN (m = 40 + nSeg closed l) := ⟨by rw [d2, List.length_append, List.length_range]; rfl⟩
    have k5 : (5 : Int) < (m : Int) := by have := hm.out; omega
    have k5' : (5 : Int) ≠ (m : Int) := by omega
    have Y0 := cellAt R1 0
    have Y1 := cellAt R1 1
    have Y2 := cellAt R1 2
    have Y3 := cellAt R1 3
    simp only [List.getElem?_toArray, List.getElem?_cons_zero, List.getElem?_cons_succ] at Y0 Y1 Y2 Y3
    clear d1 d2 hb1 R1 hroot hpr
    go_enter Try.func102, Try.ntmps102
    go_wp2_with (go_at_call 104; refine JR.StopN.out ?_)
    refine ⟨?_⟩
    refine (hrn _ I1).mono ?_
    rintro e w2 ⟨c, rfl, h1, h2⟩
    clear hrn I1 p5 Y0 Y1 Y2 Y3
    go_wp2
    go_ret
    exact ⟨c, rfl, h1, h2⟩
end Go.Proofs.Ytdhljiediafeoaa
