import Derived.Test.YtlpibeloedfbdaaGreatFgp
set_option linter.unusedSimpArgs false
set_option linter.unusedVariables false
namespace Go.Proofs.YtlpibeloedfbdaaGreat
open Go.RowKit PF JR

theorem pt_c (x y : Int) (w : World) : Calls Tryz.prog 20 #[.agg #[.int .i64 x, .int .i64 y]] w fun e w' => e = .returned (.agg #[fl (fb x), fl (fb y)]) ∧ Below w.heap.size w w' := by
  go_enter Tryz.func20, Tryz.ntmps20
  go_wp2
  exact bodyPost_ret (v := .agg #[fl (fb x), fl (fb y)]) (by simp [results, Tryz.results20, go_sem]; exact ⟨rfl, rfl⟩) rfl ⟨rfl, ((Below.refl _ _).alloc (Nat.le_refl _) _).alloc (by simp) _⟩

set_option maxHeartbeats 400000 in
theorem rect_c (x0 y0 x1 y1 : Int) (w : World) : Calls Tryz.prog 16 #[.agg #[.int .i64 x0, .int .i64 y0, .int .i64 x1, .int .i64 y1]] w fun e w' => e = .returned (.agg #[fl (fb x0), fl (fb y0), fl (fb x1), fl (fb y1)]) ∧ Below w.heap.size w w' := by
  go_enter Tryz.func16, Tryz.ntmps16
  go_wp2
  refine wp_region_K [w.heap.size + 1] [.val (.pointer (some ⟨w.heap.size, 0, none⟩)),
      .val (.agg #[.int .i64 x0, .int .i64 y0]),
      .val (.agg #[fl (fb x0), fl (fb y0)]),
      .val (.pointer (some ⟨w.heap.size, 2, none⟩)),
      .val (.agg #[.int .i64 x1, .int .i64 y1]),
      .val (.agg #[fl (fb x1), fl (fb y1)]),
      .val (.agg #[fl (fb x0), fl (fb y0), fl (fb x1), fl (fb y1)]),
      .turn (w.heap.size + 1) #[fl 0, fl 0, fl 0, fl 0] (· = #[fl (fb x0), fl (fb y0), fl (fb x1), fl (fb y1)]) 52]
    [[.ini 1], [.frm 0 3], [.frm 1 4], [.ini 1], [.frm 3 6], [.frm 4 7], [.frm 2 5, .frm 5 8], [.ini 2, .frm 6 9, .til 7]]
    mixed (by kernel_rfl) (by kernel_rfl) (allPre_of ⟨trivial, trivial, trivial, trivial, trivial, trivial, trivial, allocAt (by simp), trivial⟩)
    ⟨OpOk.quiet rfl ?_,
      OpOk.quiet rfl ?_,
      OpOk.call rfl ?_,
      OpOk.quiet rfl ?_,
      OpOk.quiet rfl ?_,
      OpOk.call rfl ?_,
      OpOk.quiet rfl ?_,
      OpOk.turnRow rfl rfl (by simp) (by kernel_rfl) (oldFree_of ⟨.inr ((fun h => (nomatch h))), .inr ((fun h => (nomatch h))), .inr ((fun h => (nomatch h))), .inr ((fun h => (nomatch h))), .inr ((fun h => (nomatch h))), .inr ((fun h => (nomatch h))), .inr ((fun h => (nomatch h))), .inl rfl, trivial⟩) (by kernel_rfl) rfl (by simp [Value.oneCell']) (fun a w _ hf => ⟨hf.1, hf.2.1.elim fun _ h => h.elim fun _ h => h, hf.2.2.1⟩) (fun _ _ h => Keep.setRow h (.inr (by simp))), trivial⟩ ?_
  · intro a u _ hf
    simp [facts, Need.fact, Act.eval] at hf
    go_simp
  · intro a u hG hf
    simp [facts, Need.fact, Ent.val, Act.eval] at hf
    have hc := fun (b o : Nat) (h : b < w.heap.size + 1) => hG.cell (p := ⟨b, o, none⟩) (by simp; omega) (by simp; omega)
    go_simp
  · intro a u _ hf
    simp [facts, Need.fact, Ent.val, Act.eval] at hf
    refine ⟨_, _, by go_simp, (pt_c x0 y0 _).mono ?_⟩
    rintro e w' ⟨rfl, hb⟩
    exact ⟨_, rfl, hb, rfl⟩
  · intro a u _ hf
    simp [facts, Need.fact, Act.eval] at hf
    go_simp
  · intro a u hG hf
    simp [facts, Need.fact, Ent.val, Act.eval] at hf
    have hc := fun (b o : Nat) (h : b < w.heap.size + 1) => hG.cell (p := ⟨b, o, none⟩) (by simp; omega) (by simp; omega)
    go_simp
  · intro a u _ hf
    simp [facts, Need.fact, Ent.val, Act.eval] at hf
    refine ⟨_, _, by go_simp, (pt_c x1 y1 _).mono ?_⟩
    rintro e w' ⟨rfl, hb⟩
    exact ⟨_, rfl, hb, rfl⟩
  · intro a u _ hf
    simp [facts, Need.fact, Ent.val, Act.eval] at hf
    go_simp
  intro u l h wc hK hE hI hD
  simp [allE, Ent.turn, Ent.val] at hE
  obtain ⟨u0, u1, u2, u3, u4, u5, u6, g7⟩ := hE
  simp only [allPut, Act.put, u0, u1, u2, u3, u4, u5, u6]
  clear u0 u1 u2 u3 u4 u5 u6
  have q0 := cellAt g7 0
  have q1 := cellAt g7 1
  have q2 := cellAt g7 2
  have q3 := cellAt g7 3
  simp only [List.getElem?_toArray, List.getElem?_cons_zero, List.getElem?_cons_succ] at q0 q1 q2 q3
  have hB := Keep.belowX (B := w.heap.size) hK (((Below.refl _ _).alloc (Nat.le_refl _) _).alloc (by simp) _) (by simp; omega) (by simp)
  clear hK hI hD g7
  go_wp2
  exact bodyPost_ret (v := .agg #[fl (fb x0), fl (fb y0), fl (fb x1), fl (fb y1)]) (by simp [results, Tryz.results16, go_sem, q0, q1, q2, q3]) rfl ⟨rfl, hB⟩

end Go.Proofs.YtlpibeloedfbdaaGreat
