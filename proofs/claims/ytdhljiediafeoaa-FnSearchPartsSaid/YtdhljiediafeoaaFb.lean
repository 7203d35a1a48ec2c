import Derived.Test.YtdhljiediafeoaaFa
set_option linter.unusedSimpArgs false
set_option linter.unusedVariables false
/-! impl.SearchIn: the walk. -/
namespace Go.Proofs.Ytdhljiediafeoaa
open Go.RowKit PF JR
theorem SkP.narrow {K : Nat} {closed : Bool} {l : List (Int × Int)} {T : TypeId} {lo hi b : Nat} {w : World} (H : SkP K closed l T lo hi b w) : SkP K closed l T lo w.heap.size b w := by
  obtain ⟨ix, v', g0, g1, g2, g3, A, c, g5, g6⟩ := H
  refine ⟨ix, v', ?_, g1, lt_of_some g3, g3, A, c, g5, fun k p hp => ?_⟩
  · rcases g0 with h | ⟨h0, g, h1, h2, h3, h4⟩
    · exact .inl h
    · exact .inr ⟨h0, g, h1, h2, lt_of_some h4, h4⟩
  · obtain ⟨b', h1, h2, h3, h4, h5⟩ := g6 k p hp
    exact ⟨b', h1, h2, World.block_lt_of_cell? w _ h4, h4, h5⟩
set_option maxRecDepth 100000 in
set_option maxHeartbeats 2000000 in
theorem searchIn_c (closed : Bool) (K : Nat) (hK : K ≤ 2) (most : Nat) (hm1 : 1 ≤ most) (l : List (Int × Int)) (hl : l.length ≤ 12) (h2l : 2 ≤ l.length) (hbd : ∀ p ∈ l, Bnd p) (r : Int × Int × Int × Int) (hr : BdR r) (v : Value) (w : World) (hv : SlP w v l) :
    Calls Try.prog 7 #[v, .bool closed, .int .i64 K, .int .i64 2, .agg #[.int .i64 r.1, .int .i64 r.2.1, .int .i64 r.2.2.1, .int .i64 r.2.2.2], .int .i64 most] w
      fun e w' => ∃ v', e = .returned v' ∧ SlN w.heap.size w'.heap.size w' v' ((hitsN r l (nSeg closed l)).take most) ∧ Below w.heap.size w w' := by
  go_enter Try.func7, Try.ntmps7
  go_wp2_with (with_reducible refine stop_region ?_)
  generalize hX0 : (Obj.cells #[.int .i64 r.1, .int .i64 r.2.1, .int .i64 r.2.2.1, .int .i64 r.2.2.2] 25) = X0
  generalize hX1 : (Obj.cells #[.int .i64 most] 2) = X1
  generalize hX2 : (Obj.cells #[.slice none 0 0] 34) = X2
  have hB0 : Below w.heap.size w (((w.alloc X0).alloc X1).alloc X2) := (((Below.refl _ w).alloc (Nat.le_refl _) X0).alloc (by simp) X1).alloc (by simp; omega) X2
  have hsz : (((w.alloc X0).alloc X1).alloc X2).heap.size = w.heap.size + 3 := by simp
  have r2 : (((w.alloc X0).alloc X1).alloc X2).heap[w.heap.size + 2]? = some X2 := by
    have := heap_alloc_new ((w.alloc X0).alloc X1) X2
    simpa using this
  have r1 : (((w.alloc X0).alloc X1).alloc X2).heap[w.heap.size + 1]? = some X1 := by
    have := heap_alloc_new (w.alloc X0) X1
    exact (Below.heap_alloc ((w.alloc X0).alloc X1) X2 _ (by simp)).trans (by simpa using this)
  have r0 : (((w.alloc X0).alloc X1).alloc X2).heap[w.heap.size]? = some X0 := by
    exact (Below.heap_alloc ((w.alloc X0).alloc X1) X2 _ (by simp; omega)).trans ((Below.heap_alloc (w.alloc X0) X1 _ (by simp)).trans (heap_alloc_new w X0))
  generalize ((w.alloc X0).alloc X1).alloc X2 = W at *
  subst hX0 hX1 hX2
  have hvW := hv.below hB0
  have eN : w.heap.size + 1 + 1 = w.heap.size + 2 := rfl
  generalize ho9 : w.heap.size + 2 = o9 at *
  have hser := series_c K hK closed l hl h2l hbd
  refine ⟨?_⟩
  refine wp_region_T [o9] [.val v, .val (.bool closed), .val (.int .i64 K), .val (.int .i64 2),
      .rel (fun v' lo hi u => ∃ b : Nat, v' = .iface (serT closed) (.pointer (some ⟨b, 0, none⟩)) ∧ W.heap.size ≤ lo ∧ SkP K closed l (serB closed) lo hi b u) (fun _ _ _ _ _ hk ⟨b, h1, h2, h3⟩ => ⟨b, h1, h2, h3.keep fun k g1 g2 _ => hk k g1 g2⟩),
      .val (.agg #[.int .i64 r.1, .int .i64 r.2.1, .int .i64 r.2.2.1, .int .i64 r.2.2.2]),
      .val (.agg #[fl (fb r.1), fl (fb r.2.1), fl (fb r.2.2.1), fl (fb r.2.2.2)]),
      .val (.func (.func 14) #[] #[.pointer (some ⟨o9, 0, none⟩), .pointer (some ⟨w.heap.size + 1, 0, none⟩)]),
      .fnS 18 (fun x => .func (.method "Search") #[x] #[]), .fnS 22 id, .fnS 18 id,
      .fin W (fun lo hi u => ∃ v', u.heap[o9]? = some (.cells #[v'] 34 (0, 0)) ∧ SlN lo hi u v' ((hitsN r l (nSeg closed l)).take most)) (fun lo hi u u' _ _ hk ⟨v', h1, h2⟩ => ⟨v', (hk o9 (.inl (lt_of_some r2))).trans h1, h2.keep fun k g1 g2 => hk k (.inr ⟨g1, g2⟩)⟩)]
    [[.ini 0], [.ini 1], [.ini 2], [.ini 3], [.frm 0 14, .frm 1 15, .frm 2 16, .frm 3 17], [.ini 10], [.frm 5 19], [.ini 13, .ini 11], [.frm 4 18], [.frm 8 22, .frm 4 18], [.frm 4 18], [.til 11, .frm 10 24, .frm 4 18, .frm 6 20, .frm 7 21]]
    mixed (by kernel_rfl) (by kernel_rfl) (allPre_of ⟨trivial, trivial, trivial, trivial, trivial, trivial, trivial, trivial, trivial, trivial, trivial, (Below.refl _ W).drew, trivial⟩)
    ⟨OpOk.quiet rfl ?_, OpOk.quiet rfl ?_, OpOk.quiet rfl ?_, OpOk.quiet rfl ?_, OpOk.call rfl ?_, OpOk.quiet rfl ?_, OpOk.call rfl ?_, OpOk.quiet rfl ?_, OpOk.fnS rfl ?_, OpOk.fnS rfl ?_, OpOk.fnS rfl ?_,
      OpOk.fin rfl ⟨.inr (still_val _), .inr (still_val _), .inr (still_val _), .inr (still_val _), .inr (still_rel _ _), .inr (still_val _), .inr (still_val _), .inr (still_val _), .inr (still_fnS _ _), .inr (still_fnS _ _), .inr (still_fnS _ _), .inl rfl, trivial⟩ (fun a u hf => hf.1) ?_, trivial⟩ ?_
  · intro a u _ hf
    simp [facts, Need.fact, Act.eval] at hf
    go_simp
  · intro a u _ hf
    simp [facts, Need.fact, Act.eval] at hf
    go_simp
  · intro a u _ hf
    simp [facts, Need.fact, Act.eval] at hf
    go_simp
  · intro a u _ hf
    simp [facts, Need.fact, Act.eval] at hf
    go_simp
  · intro a u hG hf
    simp [facts, Need.fact, Ent.val, Act.eval] at hf
    have hvu : SlP u v l := hv.below (hG.belowX hB0 (by omega) (by simp; omega))
    refine ⟨_, _, by go_simp, (hser v u hvu).mono ?_⟩
    rintro e w' ⟨b, rfl, hs, hb⟩
    exact ⟨_, rfl, hb, b, rfl, hG.size, hs⟩
  · intro a u hG hf
    simp [facts, Need.fact, Act.eval] at hf
    have hrow := (hG.block w.heap.size (lt_of_some r0) (by simp; omega)).trans r0
    have y0 := cellAt hrow 0
    have y1 := cellAt hrow 1
    have y2 := cellAt hrow 2
    have y3 := cellAt hrow 3
    simp only [List.getElem?_toArray, List.getElem?_cons_zero, List.getElem?_cons_succ] at y0 y1 y2 y3
    go_simp
  · intro a u _ hf
    simp [facts, Need.fact, Ent.val, Act.eval] at hf
    refine ⟨_, _, by go_simp, (rect_c r.1 r.2.1 r.2.2.1 r.2.2.2 u).mono ?_⟩
    rintro e w' ⟨rfl, hb⟩
    exact ⟨_, rfl, hb, rfl⟩
  · intro a u _ hf
    simp [facts, Need.fact, Act.eval] at hf
    go_simp
  · intro a u _ hf
    simp [facts, Need.fact, Ent.rel, Act.eval] at hf
    obtain ⟨l0, h0, b, hf, -, -⟩ := hf
    go_simp
  · intro a u _ hf
    simp [facts, Need.fact, Ent.fnS, Ent.rel, Act.eval] at hf
    obtain ⟨hf22, l0, h0, b, hf18, -, -⟩ := hf
    go_simp
    cases closed <;> kernel_rfl
  · intro a u _ hf
    simp [facts, Need.fact, Ent.rel, Act.eval] at hf
    obtain ⟨l0, h0, b, hf, -, -⟩ := hf
    go_simp
  · intro a u hBu hf
    obtain ⟨-, hf⟩ := hf
    simp [facts, Need.fact, Ent.val, Ent.rel, Ent.fnS, Act.eval] at hf
    obtain ⟨hf24, ⟨l0, h0, b, hf18, hlo, hS⟩, hf20, hf21⟩ := hf
    rw [hf18] at hf24
    refine ⟨99, #[.pointer (some ⟨b, 0, none⟩), .agg #[fl (fb r.1), fl (fb r.2.1), fl (fb r.2.2.1), fl (fb r.2.2.2)], .func (.func 14) #[] #[.pointer (some ⟨o9, 0, none⟩), .pointer (some ⟨w.heap.size + 1, 0, none⟩)]], by go_simp; cases closed <;> kernel_rfl, ?_⟩
    have ho9' := lt_of_some r2
    have hbl := h0
    refine (find_c o9 (w.heap.size + 1) (by omega) most hm1 K hK closed l hl h2l hbd r hr (serB closed) l0 u.heap.size b u ?_ (Nat.le_refl _) (by omega) ((hBu.block o9 ho9').trans r2) ((hBu.block _ (lt_of_some r1)).trans r1)).mono ?_
    · exact hS.narrow
    rintro e w' ⟨rfl, hK2, v', h1, h2⟩
    refine ⟨_, rfl, hK2.size, ⟨hK2.os.trans hBu.os, hK2.tape.trans hBu.tape, hK2.output.trans hBu.output, Nat.le_trans hBu.size hK2.size, fun j hj hx => (hK2.block j (Nat.lt_of_lt_of_le hj hBu.size) hx).trans (hBu.block j hj)⟩, fun j g1 g2 => hK2.block j g2 (by simp; omega), v', h1, h2⟩
  intro u lw hw wc hKp hE hI hD
  simp only [allE, Ent.val, Ent.fin] at hE
  obtain ⟨-, -, -, -, -, -, -, -, -, -, -, ⟨e1, e2, v', e3, e4⟩, -⟩ := hE
  simp only [Nat.reduceAdd] at e2 e4
  simp only [allPut, Act.put, Nat.reduceAdd]
  try simp only [List.setIfInBounds_toArray, List.set_cons_zero, List.set_cons_succ]
  have q11 := hI 11 (by decide)
  clear hI hD hser
  have x0 := cellAt e3 0
  simp only [List.getElem?_toArray, List.getElem?_cons_zero] at x0
  rw [eN]
  go_wp2
  go_ret
  exact ⟨v', rfl, e4.wide (by omega) (by omega), hKp.belowX hB0 (by omega) (by simp; omega)⟩
end Go.Proofs.Ytdhljiediafeoaa
