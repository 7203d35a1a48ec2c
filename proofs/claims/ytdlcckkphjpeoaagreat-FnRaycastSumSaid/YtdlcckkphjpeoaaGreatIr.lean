import Derived.Test.YtdlcckkphjpeoaaGreatSma
import Derived.Test.YtdlcckkphjpeoaaGreatRay
set_option linter.unusedSimpArgs false
set_option linter.unusedVariables false
/-! impl.Raycast. -/
namespace Go.Proofs.YtdlcckkphjpeoaaGreat
open Go.RowKit PF JR
set_option maxHeartbeats 400000 in
theorem implRay_c (Ax Ay Bx By Px Py : Int) (b1 : -16384 ≤ Ax ∧ Ax ≤ 16384 ∧ -16384 ≤ Ay ∧ Ay ≤ 16384 ∧ -16384 ≤ Bx ∧ Bx ≤ 16384 ∧ -16384 ≤ By ∧ By ≤ 16384 ∧ -16384 ≤ Px ∧ Px ≤ 16384 ∧ -16384 ≤ Py ∧ Py ≤ 16384) (w : World) : Calls Tryz.prog 13 #[.agg #[.int .i64 Ax, .int .i64 Ay], .agg #[.int .i64 Bx, .int .i64 By], .agg #[.int .i64 Px, .int .i64 Py]] w
    fun e w' => e = .returned (.tuple #[.bool (rcIn Ax Ay Bx By Px Py), .bool (rcOn Ax Ay Bx By Px Py)]) ∧ Below w.heap.size w w' := by
  have ra := fb_rep Ax (by omega)
  have rb := fb_rep Ay (by omega)
  have rc := fb_rep Bx (by omega)
  have rd := fb_rep By (by omega)
  have re := fb_rep Px (by omega)
  have rf := fb_rep Py (by omega)
  go_enter Tryz.func13, Tryz.ntmps13
  go_wp2
  refine wp_region_K [] [.val (.agg #[.int .i64 Ax, .int .i64 Ay]),
      .val (.agg #[fl (fb Ax), fl (fb Ay)]),
      .val (.agg #[.int .i64 Bx, .int .i64 By]),
      .val (.agg #[fl (fb Bx), fl (fb By)]),
      .val (.agg #[fl (fb Ax), fl (fb Ay), fl (fb Bx), fl (fb By)]),
      .val (.agg #[.int .i64 Px, .int .i64 Py]),
      .val (.agg #[fl (fb Px), fl (fb Py)]),
      .val (.agg #[.bool (rcIn Ax Ay Bx By Px Py), .bool (rcOn Ax Ay Bx By Px Py)]),
      .made 82 2,
      .filled 8 #[.bool (rcIn Ax Ay Bx By Px Py), .bool (rcOn Ax Ay Bx By Px Py)] 82]
    [[.ini 3], [.frm 0 9], [.ini 4], [.frm 2 11], [.frm 1 10, .frm 3 12], [.ini 5], [.frm 5 14], [.frm 4 13, .frm 6 15], [], [.frm 8 8, .frm 7 16]]
    mixed (by kernel_rfl) (by kernel_rfl) (allPre_of ⟨trivial, trivial, trivial, trivial, trivial, trivial, trivial, trivial, trivial, trivial, trivial⟩)
    ⟨OpOk.quiet rfl ?_,
      OpOk.call rfl ?_,
      OpOk.quiet rfl ?_,
      OpOk.call rfl ?_,
      OpOk.quiet rfl ?_,
      OpOk.quiet rfl ?_,
      OpOk.call rfl ?_,
      OpOk.call rfl ?_,
      OpOk.made (cs := #[.bool false, .bool false]) rfl rfl ?_,
      OpOk.fillRow (k := 8) rfl rfl (by kernel_rfl) rfl (oldLt_of ⟨(fun _ h => (nomatch h)), (fun _ h => (nomatch h)), (fun _ h => (nomatch h)), (fun _ h => (nomatch h)), (fun _ h => (nomatch h)), (fun _ h => (nomatch h)), (fun _ h => (nomatch h)), (fun _ h => (nomatch h)), (fun _ h => (nomatch h)), (fun _ h => (nomatch h)), trivial⟩) (by kernel_rfl) (by simp [Value.oneCell']) (fun a w hf => ⟨hf.1, hf.2.1.elim fun _ h => h.elim fun _ h => h⟩) (fun _ _ _ h hb => Keep.setRow h (.inl hb)), trivial⟩ ?_
  · intro a u hG hf
    simp [facts, Need.fact, Act.eval] at hf
    have hc := fun (b o : Nat) (h : b < w.heap.size + 3) => hG.cell (p := ⟨b, o, none⟩) (by simp; omega) (by simp)
    go_simp
  · intro a u _ hf
    simp [facts, Need.fact, Ent.val, Act.eval] at hf
    refine ⟨_, _, by go_simp, (pt_c Ax Ay _).mono ?_⟩
    rintro e w' ⟨rfl, hb⟩
    exact ⟨_, rfl, hb, rfl⟩
  · intro a u hG hf
    simp [facts, Need.fact, Act.eval] at hf
    have hc := fun (b o : Nat) (h : b < w.heap.size + 3) => hG.cell (p := ⟨b, o, none⟩) (by simp; omega) (by simp)
    go_simp
  · intro a u _ hf
    simp [facts, Need.fact, Ent.val, Act.eval] at hf
    refine ⟨_, _, by go_simp, (pt_c Bx By _).mono ?_⟩
    rintro e w' ⟨rfl, hb⟩
    exact ⟨_, rfl, hb, rfl⟩
  · intro a u _ hf
    simp [facts, Need.fact, Ent.val, Act.eval] at hf
    go_simp
  · intro a u hG hf
    simp [facts, Need.fact, Act.eval] at hf
    have hc := fun (b o : Nat) (h : b < w.heap.size + 3) => hG.cell (p := ⟨b, o, none⟩) (by simp; omega) (by simp)
    go_simp
  · intro a u _ hf
    simp [facts, Need.fact, Ent.val, Act.eval] at hf
    refine ⟨_, _, by go_simp, (pt_c Px Py _).mono ?_⟩
    rintro e w' ⟨rfl, hb⟩
    exact ⟨_, rfl, hb, rfl⟩
  · intro a u _ hf
    simp [facts, Need.fact, Ent.val, Act.eval] at hf
    refine ⟨_, _, by go_simp, (raycast_c ra rb rc rd re rf b1 _).mono ?_⟩
    rintro e w' ⟨rfl, hb⟩
    exact ⟨_, rfl, hb, rfl⟩
  · intro a u _ _
    go_simp
  intro u l h wc hK hE hI hD
  simp [allE, allPut, Act.put, Act.eval, Ent.filledP, Ent.made, Ent.val] at hE
  obtain ⟨u0, u1, u2, u3, u4, u5, u6, u7, ⟨b8, u8, l8, h8, -⟩, ⟨c9, v9, g9⟩⟩ := hE
  obtain rfl : b8 = c9 := by rw [u8] at v9; simpa using v9
  simp only [allPut, Act.put, u0, u1, u2, u3, u4, u5, u6, u7, u8]
  clear u0 u1 u2 u3 u4 u5 u6 u7 u8 v9
  have q0 := cellAt g9 0
  have q1 := cellAt g9 1
  simp only [List.getElem?_toArray, List.getElem?_cons_zero, List.getElem?_cons_succ] at q0 q1
  have hB := Keep.belowX (B := w.heap.size) hK ((((Below.refl _ _).alloc (Nat.le_refl _) _).alloc (by simp) _).alloc (by simp; omega) _) (by simp; omega) (by simp)
  clear hK hI hD g9 l8 h8
  go_wp2
  go_quiet (fail)
  go_wp2
  go_ret2
  exact ⟨rfl, below_drewN hB _⟩
end Go.Proofs.YtdlcckkphjpeoaaGreat
