import Derived.Test.YtbeoijpdacpaaaaGreatQM
import Derived.Test.YtbeoijpdacpaaaaGreatYi
import Derived.Test.YtbeoijpdacpaaaaGreatYn
import Derived.Test.YtbeoijpdacpaaaaGreatQO
import Derived.Test.YtbeoijpdacpaaaaGreatQZ
set_option linter.unusedSimpArgs false
set_option linter.unusedVariables false
/-! Within a drawn region: several stores into cells of one block that was there before. -/
namespace JR
open Go Go.RowKit
/-- cell off of block b, a row of n cells, holds slot t's value; it held v0 -/
def Ent.cel (b off : Nat) (v0 : Value) (t n : Nat) (T : TypeId) : Ent where
  E := fun _ _ _ a w => ∃ cs, w.heap[b]? = some (.cells cs T (0, 0)) ∧ cs.size = n ∧ cs[off]? = some (a.eval (.tmp t))
  sl := [t]
  old := [b]
  still := false
  news := false
  pre := fun w => ∃ cs, w.heap[b]? = some (.cells cs T (0, 0)) ∧ cs.size = n ∧ cs[off]? = some v0
  hsl := fun _ _ _ a a' _ h ⟨cs, h1, h2, h3⟩ => ⟨cs, h1, h2, by rw [← h t (by simp)]; exact h3⟩
  hext := fun _ _ _ _ _ _ _ e ⟨cs, h1, h2, h3⟩ => ⟨cs, (e.block b (lt_of_some h1)).trans h1, h2, h3⟩
  hstill := fun h => Bool.noConfusion h
  hnews := fun h => Bool.noConfusion h
  hrow := fun _ _ _ _ _ _ _ _ _ ho ⟨cs, h1, h2, h3⟩ => ⟨cs, (setRow_other (fun he => ho (by simp [he]))).trans h1, h2, h3⟩
  hpext := fun _ _ e ⟨cs, h1, h2, h3⟩ => ⟨cs, (e.block b (lt_of_some h1)).trans h1, h2, h3⟩
  hprow := fun _ _ _ ho ⟨cs, h1, h2, h3⟩ => ⟨cs, (setRow_other (fun he => ho (by simp [he]))).trans h1, h2, h3⟩
/-- all other operations are known by their values alone, or store into other cells of that block -/
def celL (b off i n : Nat) (T : TypeId) : Nat → List Ent → Prop
  | _, [] => True
  | k, e :: es => (k = i ∨ (e.still = true ∧ ∀ w w', e.pre w → e.pre w') ∨ ∃ off' v t, off' ≠ off ∧ e = .cel b off' v t n T) ∧ celL b off i n T (k + 1) es
theorem celL_get {b off i n : Nat} {T : TypeId} : ∀ (es : List Ent) (k : Nat), celL b off i n T k es → ∀ (j : Nat) (e : Ent), es[j]? = some e → k + j ≠ i → (e.still = true ∧ ∀ w w', e.pre w → e.pre w') ∨ ∃ off' v t, off' ≠ off ∧ e = .cel b off' v t n T := by
  intro es
  induction es with
  | nil => intro k _ j e h; simp at h
  | cons x es ih =>
    intro k h j e he hj
    cases j with
    | zero => simp at he; subst he; exact h.1.elim (fun h => absurd h (by omega)) id
    | succ j => exact ih (k + 1) h.2 j e (by simpa using he) (by omega)
section
variable {P : Program} {ops : Array Oper} {Q : Exit → Act → World → Prop} {G : World → Prop} {B0 : Nat} {plan : List Ent} {a0 : Act} {i : Nat} {o : Oper} {ns : List Need}
theorem OpOk.cel {ty : TypeId} {b off t n : Nat} {x : Operand} {v0 : Value} {T : TypeId} (hop : o.op = .store ty x (.tmp t)) (hg : o.guard = none)
    (hoth : celL b off i n T 0 plan) (hi : (P.info? ty).map (·.size) = some 1)
    (hf : ∀ a w, G w → facts plan a0 a w ns → a.eval x = .pointer (some ⟨b, off, none⟩) ∧ (a.eval (.tmp t)).oneCell' = true ∧ ∃ cs, w.heap[b]? = some (.cells cs T (0, 0)) ∧ cs.size = n ∧ off < n)
    (hGs : ∀ w cs v, G w → w.heap[b]? = some (.cells cs T (0, 0)) → G (w.setRow b (cs.setIfInBounds off v))) :
    OpOk P ops Q G B0 plan a0 i o (.cel b off v0 t n T) ns := by
  intro a w hG hff
  refine ⟨fun _ => ?_, fun h => by simp [Region.wanted, hg] at h⟩
  obtain ⟨h1, h2, cs, h3, h4, h5⟩ := hf a w hG hff
  have hr := run_store_cell (P := P) (a := a) (w := w) ty x (.tmp t) hop b off _ h1 rfl T cs h3 hi (by omega) h2
  unfold Oper.wp
  rw [hr]
  have key : ∀ off' v, off' ≠ off → (∃ c, w.heap[b]? = some (.cells c T (0, 0)) ∧ c.size = n ∧ c[off']? = some v) → ∃ c, (w.setRow b (cs.setIfInBounds off (a.eval (.tmp t)))).heap[b]? = some (.cells c T (0, 0)) ∧ c.size = n ∧ c[off']? = some v := by
    rintro off' v hne ⟨c, e1, e2, e3⟩
    rw [h3] at e1
    cases e1
    exact ⟨_, setRow_same h3, by simpa using e2, by rw [Array.getElem?_setIfInBounds_ne (Ne.symm hne)]; exact e3⟩
  refine ⟨undef, rfl, ⟨_, setRow_same h3, by simpa using h4, by rw [Array.getElem?_setIfInBounds_self_of_lt (by omega)]⟩, .inr fun l h _ _ => ⟨by rw [setRow_size]; exact Nat.le_refl _, hGs _ _ _ hG h3, fun j e he hji hp => ?_, fun j e he hji hst v lj hj hlj hhj _ hE => ?_⟩⟩
  · rcases celL_get plan 0 hoth j e he (by omega) with h | ⟨off', v, t', hne, rfl⟩
    · exact h.2 _ _ hp
    · exact key off' v hne hp
  · rcases celL_get plan 0 hoth j e he (by omega) with h | ⟨off', v', t', hne, rfl⟩
    · rw [h.1] at hst; cases hst
    · exact key off' _ hne hE
end
theorem arr4 {cs : Array Value} {a b c d : Value} (h : cs.size = 4) (h0 : cs[0]? = some a) (h1 : cs[1]? = some b) (h2 : cs[2]? = some c) (h3 : cs[3]? = some d) : cs = #[a, b, c, d] := by
  apply Array.ext'
  match cs, h with
  | ⟨[x0, x1, x2, x3]⟩, _ =>
    simp at h0 h1 h2 h3
    subst h0 h1 h2 h3
    rfl
end JR
set_option linter.unusedSimpArgs false
set_option linter.unusedVariables false
/-! spec.GeoRect, GeoRectIn. -/
namespace Go.Proofs.YtbeoijpdacpaaaaGreat
open Go Go.RowKit PF JR
/-- a box and one point more -/
def bxp (b : Int × Int × Int × Int) (p : Int × Int) : Int × Int × Int × Int := (if p.1 < b.1 then p.1 else b.1, if p.2 < b.2.1 then p.2 else b.2.1, if b.2.2.1 < p.1 then p.1 else b.2.2.1, if b.2.2.2 < p.2 then p.2 else b.2.2.2)
def bxn (l : List (Int × Int)) : Nat → Int × Int × Int × Int
  | 0 => ((at' l 0).1, (at' l 0).2, (at' l 0).1, (at' l 0).2)
  | n + 1 => bxp (bxn l n) (at' l n)
set_option maxRecDepth 100000 in
set_option maxHeartbeats 4000000 in
theorem grc_c (l : List (Int × Int)) (h31 : l.length ≤ 900000000) (h0 : 0 < l.length) (v : Value) (w : World) (hv : SlP w v l) :
    Calls Tryz.prog 27 #[v] w fun e w' => e = .returned (.agg #[.int .i64 (bxn l l.length).1, .int .i64 (bxn l l.length).2.1, .int .i64 (bxn l l.length).2.2.1, .int .i64 (bxn l l.length).2.2.2]) ∧ Below w.heap.size w w' := by
  obtain ⟨A, c, rfl, hk⟩ := hv
  have hat := fun (i : Nat) (hi : i < l.length) => SlP.two (i := i) (j := 0) hk hi h0
  clear hk
  have hb0 : bxn l 0 = ((at' l 0).1, (at' l 0).2, (at' l 0).1, (at' l 0).2) := rfl
  have hbs : ∀ n, bxn l (n + 1) = bxp (bxn l n) (at' l n) := fun n => rfl
  generalize l.length = n at *
  have st0 := (Blk.nil w).push rfl #[.int .i64 0, .int .i64 0, .int .i64 0, .int .i64 0] 42
  obtain ⟨bb, off, rfl, g1, g2, -, -⟩ := hat 0 h0
  simp only [Nat.zero_mul, Nat.add_zero] at g1 g2
  have g1 := (st0.hb.cell (World.block_lt_of_cell? w _ g1)).trans g1
  have g2 := (st0.hb.cell (World.block_lt_of_cell? w _ g2)).trans g2
  have hn0 : ¬ n = 0 := by omega
  have hn1 : (0 : Int) < (n : Int) := by omega
  go_enter Tryz.func27, Tryz.ntmps27
  go_upto_region 3 with (fail)
  have hcel : ∀ u, Keep [] (w.alloc (.cells #[.int .i64 0, .int .i64 0, .int .i64 0, .int .i64 0] 42)) u → u.cell? ⟨bb, off, none⟩ = some (.int .i64 (at' l 0).1) ∧ u.cell? ⟨bb, off + 1, none⟩ = some (.int .i64 (at' l 0).2) :=
    fun u hG => ⟨(hG.cell (World.block_lt_of_cell? _ _ g1) (by simp)).trans g1, (hG.cell (World.block_lt_of_cell? _ _ g2) (by simp)).trans g2⟩
  refine wp_region_K [] [.val (.slice (some ⟨bb, off, none⟩) n c),
      .val (.pointer (some ⟨bb, off, none⟩)),
      .val (.agg #[.int .i64 (at' l 0).1, .int .i64 (at' l 0).2]),
      .val (.slice (some ⟨bb, off, none⟩) n c),
      .val (.pointer (some ⟨bb, off, none⟩)),
      .val (.agg #[.int .i64 (at' l 0).1, .int .i64 (at' l 0).2]),
      .val (.agg #[.int .i64 (at' l 0).1, .int .i64 (at' l 0).2, .int .i64 (at' l 0).1, .int .i64 (at' l 0).2]),
      .made 42 4,
      .filled 3 #[.int .i64 (at' l 0).1, .int .i64 (at' l 0).2, .int .i64 (at' l 0).1, .int .i64 (at' l 0).2] 42]
    [[.ini 0], [.frm 0 10], [.frm 1 11], [.ini 0], [.frm 3 13], [.frm 4 14], [.frm 2 12, .frm 5 15], [], [.frm 7 3, .frm 6 16]]
    mixed (by kernel_rfl) (by kernel_rfl) (allPre_of ⟨trivial, trivial, trivial, trivial, trivial, trivial, trivial, trivial, trivial, trivial⟩)
    ⟨OpOk.quiet rfl ?_,
      OpOk.quiet rfl ?_,
      OpOk.quiet rfl ?_,
      OpOk.quiet rfl ?_,
      OpOk.quiet rfl ?_,
      OpOk.quiet rfl ?_,
      OpOk.quiet rfl ?_,
      OpOk.made (cs := #[.int .i64 0, .int .i64 0, .int .i64 0, .int .i64 0]) rfl rfl ?_,
      OpOk.fillRow (k := 7) rfl rfl (by kernel_rfl) rfl (oldLt_of ⟨(fun _ h => (nomatch h)), (fun _ h => (nomatch h)), (fun _ h => (nomatch h)), (fun _ h => (nomatch h)), (fun _ h => (nomatch h)), (fun _ h => (nomatch h)), (fun _ h => (nomatch h)), (fun _ h => (nomatch h)), (fun _ h => (nomatch h)), trivial⟩) (by kernel_rfl) (by simp [Value.oneCell']) (fun a w hf => ⟨hf.1, hf.2.1.elim fun _ h => h.elim fun _ h => h⟩) (fun _ _ _ h hb => Keep.setRow h (.inl hb)), trivial⟩ ?_
  · intro a u _ hf
    simp [facts, Need.fact, Act.eval] at hf
    go_simp
  · intro a u _ hf
    simp [facts, Need.fact, Ent.val, Act.eval] at hf
    go_simp
  · intro a u hG hf
    simp [facts, Need.fact, Ent.val, Act.eval] at hf
    have hc := hcel u hG
    go_simp
  · intro a u _ hf
    simp [facts, Need.fact, Act.eval] at hf
    go_simp
  · intro a u _ hf
    simp [facts, Need.fact, Ent.val, Act.eval] at hf
    go_simp
  · intro a u hG hf
    simp [facts, Need.fact, Ent.val, Act.eval] at hf
    have hc := hcel u hG
    go_simp
  · intro a u _ hf
    simp [facts, Need.fact, Ent.val, Act.eval] at hf
    go_simp
  · intro a u _ _
    go_simp
  intro u lw hw w1 hK hE hI hD
  simp [allE, allPut, Act.put, Act.eval, Ent.filledP, Ent.made, Ent.val] at hE
  obtain ⟨u0, u1, u2, u3, u4, u5, u6, ⟨b7, u7, l7, h7, -⟩, ⟨c8, v8, g8⟩⟩ := hE
  obtain rfl : b7 = c8 := by rw [u7] at v8; simpa using v8
  simp only [allPut, Act.put, u0, u1, u2, u3, u4, u5, u6, u7]
  clear u0 u1 u2 u3 u4 u5 u6 u7 v8
  have i7 := hI 7 (by show 7 < 9; omega)
  have hb7le : w.heap.size + 1 ≤ b7 := by have := i7.2; simp at this; omega
  have st1 := (st0.keep0 hK).add g8
  clear hcel hK hI hD g8 g1 g2 st0 i7 l7 h7
  go_wp2
  go_loopw [19] (fun q wr => ∃ k : Nat, k ≤ n ∧ q = .int .i64 k ∧ Blk w wr [(b7, #[.int .i64 (bxn l k).1, .int .i64 (bxn l k).2.1, .int .i64 (bxn l k).2.2.1, .int .i64 (bxn l k).2.2.2], 42), (w.heap.size, #[.int .i64 0, .int .i64 0, .int .i64 0, .int .i64 0], 42)]) (fun q _ => n - (intOf q).toNat)
  case atStart => exact ⟨0, Nat.zero_le _, rfl, st1⟩
  case round =>
    clear st1
    obtain ⟨k, hkl, rfl, hst⟩ := hrel
    rcases Nat.lt_or_ge k n with hlt | hge
    · obtain ⟨bb2, off2, hbo, g1, g2, -, -⟩ := hat k hlt
      cases hbo
      have g1 := (hst.hb.cell (World.block_lt_of_cell? w _ g1)).trans g1
      have g2 := (hst.hb.cell (World.block_lt_of_cell? w _ g2)).trans g2
      have hlt' : (k : Int) < (n : Int) := by omega
      have hbk := hbs k
      generalize at' l k = p at *
      generalize bxn l k = b at *
      obtain ⟨b0, b1, b2, b3⟩ := b
      simp only at hst
      unfold bxp at hbk
      simp only at hbk
      have hbk2 : JR.StopM (bxn l (k + 1) = (if p.1 < b0 then p.1 else b0, if p.2 < b1 then p.2 else b1, if b2 < p.1 then p.1 else b2, if b3 < p.2 then p.2 else b3)) := ⟨hbk⟩
      clear hbk hbs hat hb0
      have st2 := hst.push (b := wr.heap.size) rfl #[.int .i64 p.1, .int .i64 p.2] 27
      go_upto_region 7 with (fail)
      have hne : wr.heap.size ≠ b7 := by have := hst.lt 0 rfl; omega
      have hne2 : w.heap.size ≠ b7 := by omega
      have hle : w.heap.size ≤ b7 := by omega
      clear hst g1 g2
      generalize wr.alloc _ = w2 at *
      generalize wr.heap.size = pb at *
      have y0 := st2.cell 0 rfl 0
      have y1 := st2.cell 0 rfl 1
      simp only [List.getElem?_toArray, List.getElem?_cons_zero, List.getElem?_cons_succ] at y0 y1
      have hrow0 := st2.known 1 _ rfl
      refine wp_region_J (G := fun z => Keep [b7] w2 z ∧ ∃ cs, z.heap[b7]? = some (.cells cs 42 (0, 0)) ∧ cs.size = 4 ∧ cs[2]? = some (.int .i64 b2) ∧ cs[3]? = some (.int .i64 b3)) (B0 := w2.heap.size) (plan := [.val (.pointer (some ⟨b7, 0, none⟩)), .val (.pointer (some ⟨b7, 0, none⟩)), .val (.int .i64 b0), .val (.pointer (some ⟨pb, 0, none⟩)), .val (.int .i64 p.1), .val (.int .i64 (if p.1 < b0 then p.1 else b0)), .val (.pointer (some ⟨b7, 0, none⟩)), .val (.pointer (some ⟨b7, 1, none⟩)), .val (.int .i64 b1), .val (.pointer (some ⟨pb, 1, none⟩)), .val (.int .i64 p.2), .val (.int .i64 (if p.2 < b1 then p.2 else b1)), .val (.pointer (some ⟨b7, 0, none⟩)), .val (.pointer (some ⟨b7, 0, none⟩)), .cel b7 0 (.int .i64 b0) 28 4 42, .val (.pointer (some ⟨b7, 0, none⟩)), .val (.pointer (some ⟨b7, 1, none⟩)), .cel b7 1 (.int .i64 b1) 34 4 42])
        (ns := [[.ini 3], [.frm 0 23], [.frm 1 24, .til 14], [.ini 5], [.frm 3 26], [.frm 2 25, .frm 4 27], [.ini 3], [.frm 6 29], [.frm 7 30, .til 17], [.ini 5], [.frm 9 32], [.frm 8 31, .frm 10 33], [.ini 3], [.frm 12 35], [.frm 13 36, .frm 5 28, .til 14], [.ini 3], [.frm 15 37], [.frm 16 38, .frm 11 34, .til 17]]) mixed (by kernel_rfl) (by kernel_rfl) (allPre_of ⟨trivial, trivial, trivial, trivial, trivial, trivial, trivial, trivial, trivial, trivial, trivial, trivial, trivial, trivial, ⟨_, hrow0, rfl, rfl⟩, trivial, trivial, ⟨_, hrow0, rfl, rfl⟩, trivial⟩)
        ⟨Keep.drew (Keep.refl _ _), _, hrow0, rfl, rfl, rfl⟩ (fun _ _ e h => ⟨Keep.ext e h.1, by obtain ⟨-, c', e1, e2, e3, e4⟩ := h; exact ⟨c', (e.block _ (lt_of_some e1)).trans e1, e2, e3, e4⟩⟩) (fun _ h => h.1.size)
        ⟨OpOk.quiet rfl ?_, OpOk.quiet rfl ?_, OpOk.quiet rfl ?_, OpOk.quiet rfl ?_, OpOk.quiet rfl ?_, OpOk.quiet rfl ?_, OpOk.quiet rfl ?_, OpOk.quiet rfl ?_, OpOk.quiet rfl ?_, OpOk.quiet rfl ?_, OpOk.quiet rfl ?_, OpOk.quiet rfl ?_, OpOk.quiet rfl ?_, OpOk.quiet rfl ?_, OpOk.cel rfl rfl ⟨.inr (.inl ⟨rfl, fun _ _ h => h⟩), .inr (.inl ⟨rfl, fun _ _ h => h⟩), .inr (.inl ⟨rfl, fun _ _ h => h⟩), .inr (.inl ⟨rfl, fun _ _ h => h⟩), .inr (.inl ⟨rfl, fun _ _ h => h⟩), .inr (.inl ⟨rfl, fun _ _ h => h⟩), .inr (.inl ⟨rfl, fun _ _ h => h⟩), .inr (.inl ⟨rfl, fun _ _ h => h⟩), .inr (.inl ⟨rfl, fun _ _ h => h⟩), .inr (.inl ⟨rfl, fun _ _ h => h⟩), .inr (.inl ⟨rfl, fun _ _ h => h⟩), .inr (.inl ⟨rfl, fun _ _ h => h⟩), .inr (.inl ⟨rfl, fun _ _ h => h⟩), .inr (.inl ⟨rfl, fun _ _ h => h⟩), .inl rfl, .inr (.inl ⟨rfl, fun _ _ h => h⟩), .inr (.inl ⟨rfl, fun _ _ h => h⟩), .inr (.inr ⟨1, _, _, by decide, rfl⟩), trivial⟩ (by kernel_rfl) ?_ (fun z cs v hz h => ⟨Keep.setRow hz.1 (.inr (by simp)), _, setRow_same h, by obtain ⟨-, c', e1, e2, -⟩ := hz; rw [h] at e1; cases e1; simpa using e2, by obtain ⟨-, c', e1, -, e3, -⟩ := hz; rw [h] at e1; cases e1; rw [Array.getElem?_setIfInBounds_ne (by decide)]; exact e3, by obtain ⟨-, c', e1, -, -, e3⟩ := hz; rw [h] at e1; cases e1; rw [Array.getElem?_setIfInBounds_ne (by decide)]; exact e3⟩), OpOk.quiet rfl ?_, OpOk.quiet rfl ?_, OpOk.cel rfl rfl ⟨.inr (.inl ⟨rfl, fun _ _ h => h⟩), .inr (.inl ⟨rfl, fun _ _ h => h⟩), .inr (.inl ⟨rfl, fun _ _ h => h⟩), .inr (.inl ⟨rfl, fun _ _ h => h⟩), .inr (.inl ⟨rfl, fun _ _ h => h⟩), .inr (.inl ⟨rfl, fun _ _ h => h⟩), .inr (.inl ⟨rfl, fun _ _ h => h⟩), .inr (.inl ⟨rfl, fun _ _ h => h⟩), .inr (.inl ⟨rfl, fun _ _ h => h⟩), .inr (.inl ⟨rfl, fun _ _ h => h⟩), .inr (.inl ⟨rfl, fun _ _ h => h⟩), .inr (.inl ⟨rfl, fun _ _ h => h⟩), .inr (.inl ⟨rfl, fun _ _ h => h⟩), .inr (.inl ⟨rfl, fun _ _ h => h⟩), .inr (.inr ⟨0, _, _, by decide, rfl⟩), .inr (.inl ⟨rfl, fun _ _ h => h⟩), .inr (.inl ⟨rfl, fun _ _ h => h⟩), .inl rfl, trivial⟩ (by kernel_rfl) ?_ (fun z cs v hz h => ⟨Keep.setRow hz.1 (.inr (by simp)), _, setRow_same h, by obtain ⟨-, c', e1, e2, -⟩ := hz; rw [h] at e1; cases e1; simpa using e2, by obtain ⟨-, c', e1, -, e3, -⟩ := hz; rw [h] at e1; cases e1; rw [Array.getElem?_setIfInBounds_ne (by decide)]; exact e3, by obtain ⟨-, c', e1, -, -, e3⟩ := hz; rw [h] at e1; cases e1; rw [Array.getElem?_setIfInBounds_ne (by decide)]; exact e3⟩), trivial⟩ ?_
      · intro a u _ hf
        simp [facts, Need.fact, Ent.val, Act.eval] at hf
        go_simp
      · intro a u _ hf
        simp [facts, Need.fact, Ent.val, Act.eval] at hf
        go_simp
      · intro a u hG hf
        obtain ⟨⟨_, _, f1⟩, ⟨cs, g1, g2, g3⟩, -⟩ := hf
        have f1' : a.eval (.tmp 24) = .pointer (some ⟨b7, 0, none⟩) := f1
        have q1 := (cellAt g1 0).trans g3
        simp [Act.eval] at f1'
        clear f1
        go_simp
      · intro a u _ hf
        simp [facts, Need.fact, Ent.val, Act.eval] at hf
        go_simp
      · intro a u hG hf
        simp [facts, Need.fact, Ent.val, Act.eval] at hf
        have q1 := (hG.1.cell (p := ⟨pb, 0, none⟩) (st2.lt 0 rfl) (by simp; omega)).trans y0
        go_simp
      · intro a u _ hf
        simp [facts, Need.fact, Ent.val, Act.eval] at hf
        go_simp
      · intro a u _ hf
        simp [facts, Need.fact, Ent.val, Act.eval] at hf
        go_simp
      · intro a u _ hf
        simp [facts, Need.fact, Ent.val, Act.eval] at hf
        go_simp
      · intro a u hG hf
        obtain ⟨⟨_, _, f1⟩, ⟨cs, g1, g2, g3⟩, -⟩ := hf
        have f1' : a.eval (.tmp 30) = .pointer (some ⟨b7, 1, none⟩) := f1
        have q1 := (cellAt g1 1).trans g3
        simp [Act.eval] at f1'
        clear f1
        go_simp
      · intro a u _ hf
        simp [facts, Need.fact, Ent.val, Act.eval] at hf
        go_simp
      · intro a u hG hf
        simp [facts, Need.fact, Ent.val, Act.eval] at hf
        have q1 := (hG.1.cell (p := ⟨pb, 1, none⟩) (st2.lt 0 rfl) (by simp; omega)).trans y1
        go_simp
      · intro a u _ hf
        simp [facts, Need.fact, Ent.val, Act.eval] at hf
        go_simp
      · intro a u _ hf
        simp [facts, Need.fact, Ent.val, Act.eval] at hf
        go_simp
      · intro a u _ hf
        simp [facts, Need.fact, Ent.val, Act.eval] at hf
        go_simp
      · intro a u hG hf
        obtain ⟨⟨_, _, f1⟩, ⟨_, _, f2⟩, ⟨cs, g1, g2, g3⟩, -⟩ := hf
        have f1' : a.eval (.tmp 36) = .pointer (some ⟨b7, 0, none⟩) := f1
        have f2' : a.eval (.tmp 28) = .int .i64 (if p.1 < b0 then p.1 else b0) := f2
        exact ⟨f1', by rw [f2']; rfl, cs, g1, g2, by decide⟩
      · intro a u _ hf
        simp [facts, Need.fact, Ent.val, Act.eval] at hf
        go_simp
      · intro a u _ hf
        simp [facts, Need.fact, Ent.val, Act.eval] at hf
        go_simp
      · intro a u hG hf
        obtain ⟨⟨_, _, f1⟩, ⟨_, _, f2⟩, ⟨cs, g1, g2, g3⟩, -⟩ := hf
        have f1' : a.eval (.tmp 38) = .pointer (some ⟨b7, 1, none⟩) := f1
        have f2' : a.eval (.tmp 34) = .int .i64 (if p.2 < b1 then p.2 else b1) := f2
        exact ⟨f1', by rw [f2']; rfl, cs, g1, g2, by decide⟩
      intro uu lw hw wz hG hE hI hD
      obtain ⟨v0, v1, v2, v3, v4, v5, v6, v7, v8, v9, v10, v11, v12, v13, v14, v15, v16, v17, -⟩ := hE
      replace v0 : uu 0 = .pointer (some ⟨b7, 0, none⟩) := v0
      replace v1 : uu 1 = .pointer (some ⟨b7, 0, none⟩) := v1
      replace v2 : uu 2 = .int .i64 b0 := v2
      replace v3 : uu 3 = .pointer (some ⟨pb, 0, none⟩) := v3
      replace v4 : uu 4 = .int .i64 p.1 := v4
      replace v5 : uu 5 = .int .i64 (if p.1 < b0 then p.1 else b0) := v5
      replace v6 : uu 6 = .pointer (some ⟨b7, 0, none⟩) := v6
      replace v7 : uu 7 = .pointer (some ⟨b7, 1, none⟩) := v7
      replace v8 : uu 8 = .int .i64 b1 := v8
      replace v9 : uu 9 = .pointer (some ⟨pb, 1, none⟩) := v9
      replace v10 : uu 10 = .int .i64 p.2 := v10
      replace v11 : uu 11 = .int .i64 (if p.2 < b1 then p.2 else b1) := v11
      replace v12 : uu 12 = .pointer (some ⟨b7, 0, none⟩) := v12
      replace v13 : uu 13 = .pointer (some ⟨b7, 0, none⟩) := v13
      replace v15 : uu 15 = .pointer (some ⟨b7, 0, none⟩) := v15
      replace v16 : uu 16 = .pointer (some ⟨b7, 1, none⟩) := v16
      obtain ⟨hKp, cs, r1, r2, r3, r4⟩ := hG
      obtain ⟨cs1, r5, -, r6⟩ := v14
      obtain ⟨cs2, r7, -, r8⟩ := v17
      rw [r1] at r5 r7
      cases r5
      cases r7
      simp [allPut, Act.put, Act.eval, v5] at r6
      simp [allPut, Act.put, Act.eval, v11] at r8
      have hcs := arr4 r2 r6 r8 r3 r4
      rw [hcs] at r1
      simp only [allPut, Act.put, v0, v1, v2, v3, v4, v5, v6, v7, v8, v9, v10, v11, v12, v13, v15, v16]
      try simp only [List.setIfInBounds_toArray, List.set_cons_zero, List.set_cons_succ]
      have stX : Blk w w2 [(pb, #[.int .i64 p.1, .int .i64 p.2], 27), (w.heap.size, #[.int .i64 0, .int .i64 0, .int .i64 0, .int .i64 0], 42)] := ⟨(fun i x hx => by
        rcases i with _ | _ | i
        · cases hx; exact st2.known 0 _ rfl
        · cases hx; exact st2.known 2 _ rfl
        · cases hx), st2.hb⟩
      have st3 := (stX.keep hKp (fun i x hx => by rcases i with _ | _ | i <;> cases hx <;> simp <;> omega) (by intro z hz; simp at hz; omega)).add r1
      clear st2 stX hKp hI hD hrow0 r2 r3 r4 r6 r8 hcs y0 y1 v0 v1 v2 v3 v4 v5 v6 v7 v8 v9 v10 v11 v12 v13 v15 v16
      generalize uu 14 = z14 at *
      generalize uu 17 = z17 at *
      generalize (if p.1 < b0 then p.1 else b0) = m0 at *
      generalize (if p.2 < b1 then p.2 else b1) = m1 at *
      go_wp2_with (with_reducible refine stop_region ?_)
      refine ⟨?_⟩
      have y0 := st3.cell 1 rfl 0
      have y1 := st3.cell 1 rfl 1
      simp only [List.getElem?_toArray, List.getElem?_cons_zero, List.getElem?_cons_succ] at y0 y1
      have hrow0 := st3.known 0 _ rfl
      refine wp_region_J (G := fun z => Keep [b7] wz z ∧ ∃ cs, z.heap[b7]? = some (.cells cs 42 (0, 0)) ∧ cs.size = 4 ∧ cs[0]? = some (.int .i64 m0) ∧ cs[1]? = some (.int .i64 m1)) (B0 := wz.heap.size) (plan := [.val (.pointer (some ⟨b7, 2, none⟩)), .val (.pointer (some ⟨b7, 2, none⟩)), .val (.int .i64 b2), .val (.pointer (some ⟨pb, 0, none⟩)), .val (.int .i64 p.1), .val (.int .i64 (if b2 < p.1 then p.1 else b2)), .val (.pointer (some ⟨b7, 2, none⟩)), .val (.pointer (some ⟨b7, 3, none⟩)), .val (.int .i64 b3), .val (.pointer (some ⟨pb, 1, none⟩)), .val (.int .i64 p.2), .val (.int .i64 (if b3 < p.2 then p.2 else b3)), .val (.pointer (some ⟨b7, 2, none⟩)), .val (.pointer (some ⟨b7, 2, none⟩)), .cel b7 2 (.int .i64 b2) 44 4 42, .val (.pointer (some ⟨b7, 2, none⟩)), .val (.pointer (some ⟨b7, 3, none⟩)), .cel b7 3 (.int .i64 b3) 50 4 42])
        (ns := [[.ini 3], [.frm 0 39], [.frm 1 40, .til 14], [.ini 5], [.frm 3 42], [.frm 2 41, .frm 4 43], [.ini 3], [.frm 6 45], [.frm 7 46, .til 17], [.ini 5], [.frm 9 48], [.frm 8 47, .frm 10 49], [.ini 3], [.frm 12 51], [.frm 13 52, .frm 5 44, .til 14], [.ini 3], [.frm 15 53], [.frm 16 54, .frm 11 50, .til 17]]) mixed (by kernel_rfl) (by kernel_rfl) (allPre_of ⟨trivial, trivial, trivial, trivial, trivial, trivial, trivial, trivial, trivial, trivial, trivial, trivial, trivial, trivial, ⟨_, hrow0, rfl, rfl⟩, trivial, trivial, ⟨_, hrow0, rfl, rfl⟩, trivial⟩)
        ⟨Keep.drew (Keep.refl _ _), _, hrow0, rfl, rfl, rfl⟩ (fun _ _ e h => ⟨Keep.ext e h.1, by obtain ⟨-, c', e1, e2, e3, e4⟩ := h; exact ⟨c', (e.block _ (lt_of_some e1)).trans e1, e2, e3, e4⟩⟩) (fun _ h => h.1.size)
        ⟨OpOk.quiet rfl ?_, OpOk.quiet rfl ?_, OpOk.quiet rfl ?_, OpOk.quiet rfl ?_, OpOk.quiet rfl ?_, OpOk.quiet rfl ?_, OpOk.quiet rfl ?_, OpOk.quiet rfl ?_, OpOk.quiet rfl ?_, OpOk.quiet rfl ?_, OpOk.quiet rfl ?_, OpOk.quiet rfl ?_, OpOk.quiet rfl ?_, OpOk.quiet rfl ?_, OpOk.cel rfl rfl ⟨.inr (.inl ⟨rfl, fun _ _ h => h⟩), .inr (.inl ⟨rfl, fun _ _ h => h⟩), .inr (.inl ⟨rfl, fun _ _ h => h⟩), .inr (.inl ⟨rfl, fun _ _ h => h⟩), .inr (.inl ⟨rfl, fun _ _ h => h⟩), .inr (.inl ⟨rfl, fun _ _ h => h⟩), .inr (.inl ⟨rfl, fun _ _ h => h⟩), .inr (.inl ⟨rfl, fun _ _ h => h⟩), .inr (.inl ⟨rfl, fun _ _ h => h⟩), .inr (.inl ⟨rfl, fun _ _ h => h⟩), .inr (.inl ⟨rfl, fun _ _ h => h⟩), .inr (.inl ⟨rfl, fun _ _ h => h⟩), .inr (.inl ⟨rfl, fun _ _ h => h⟩), .inr (.inl ⟨rfl, fun _ _ h => h⟩), .inl rfl, .inr (.inl ⟨rfl, fun _ _ h => h⟩), .inr (.inl ⟨rfl, fun _ _ h => h⟩), .inr (.inr ⟨3, _, _, by decide, rfl⟩), trivial⟩ (by kernel_rfl) ?_ (fun z cs v hz h => ⟨Keep.setRow hz.1 (.inr (by simp)), _, setRow_same h, by obtain ⟨-, c', e1, e2, -⟩ := hz; rw [h] at e1; cases e1; simpa using e2, by obtain ⟨-, c', e1, -, e3, -⟩ := hz; rw [h] at e1; cases e1; rw [Array.getElem?_setIfInBounds_ne (by decide)]; exact e3, by obtain ⟨-, c', e1, -, -, e3⟩ := hz; rw [h] at e1; cases e1; rw [Array.getElem?_setIfInBounds_ne (by decide)]; exact e3⟩), OpOk.quiet rfl ?_, OpOk.quiet rfl ?_, OpOk.cel rfl rfl ⟨.inr (.inl ⟨rfl, fun _ _ h => h⟩), .inr (.inl ⟨rfl, fun _ _ h => h⟩), .inr (.inl ⟨rfl, fun _ _ h => h⟩), .inr (.inl ⟨rfl, fun _ _ h => h⟩), .inr (.inl ⟨rfl, fun _ _ h => h⟩), .inr (.inl ⟨rfl, fun _ _ h => h⟩), .inr (.inl ⟨rfl, fun _ _ h => h⟩), .inr (.inl ⟨rfl, fun _ _ h => h⟩), .inr (.inl ⟨rfl, fun _ _ h => h⟩), .inr (.inl ⟨rfl, fun _ _ h => h⟩), .inr (.inl ⟨rfl, fun _ _ h => h⟩), .inr (.inl ⟨rfl, fun _ _ h => h⟩), .inr (.inl ⟨rfl, fun _ _ h => h⟩), .inr (.inl ⟨rfl, fun _ _ h => h⟩), .inr (.inr ⟨2, _, _, by decide, rfl⟩), .inr (.inl ⟨rfl, fun _ _ h => h⟩), .inr (.inl ⟨rfl, fun _ _ h => h⟩), .inl rfl, trivial⟩ (by kernel_rfl) ?_ (fun z cs v hz h => ⟨Keep.setRow hz.1 (.inr (by simp)), _, setRow_same h, by obtain ⟨-, c', e1, e2, -⟩ := hz; rw [h] at e1; cases e1; simpa using e2, by obtain ⟨-, c', e1, -, e3, -⟩ := hz; rw [h] at e1; cases e1; rw [Array.getElem?_setIfInBounds_ne (by decide)]; exact e3, by obtain ⟨-, c', e1, -, -, e3⟩ := hz; rw [h] at e1; cases e1; rw [Array.getElem?_setIfInBounds_ne (by decide)]; exact e3⟩), trivial⟩ ?_
      · intro a u _ hf
        simp [facts, Need.fact, Ent.val, Act.eval] at hf
        go_simp
      · intro a u _ hf
        simp [facts, Need.fact, Ent.val, Act.eval] at hf
        go_simp
      · intro a u hG hf
        obtain ⟨⟨_, _, f1⟩, ⟨cs, g1, g2, g3⟩, -⟩ := hf
        have f1' : a.eval (.tmp 40) = .pointer (some ⟨b7, 2, none⟩) := f1
        have q1 := (cellAt g1 2).trans g3
        simp [Act.eval] at f1'
        clear f1
        go_simp
      · intro a u _ hf
        simp [facts, Need.fact, Ent.val, Act.eval] at hf
        go_simp
      · intro a u hG hf
        simp [facts, Need.fact, Ent.val, Act.eval] at hf
        have q1 := (hG.1.cell (p := ⟨pb, 0, none⟩) (st3.lt 1 rfl) (by simp; omega)).trans y0
        go_simp
      · intro a u _ hf
        simp [facts, Need.fact, Ent.val, Act.eval] at hf
        go_simp
      · intro a u _ hf
        simp [facts, Need.fact, Ent.val, Act.eval] at hf
        go_simp
      · intro a u _ hf
        simp [facts, Need.fact, Ent.val, Act.eval] at hf
        go_simp
      · intro a u hG hf
        obtain ⟨⟨_, _, f1⟩, ⟨cs, g1, g2, g3⟩, -⟩ := hf
        have f1' : a.eval (.tmp 46) = .pointer (some ⟨b7, 3, none⟩) := f1
        have q1 := (cellAt g1 3).trans g3
        simp [Act.eval] at f1'
        clear f1
        go_simp
      · intro a u _ hf
        simp [facts, Need.fact, Ent.val, Act.eval] at hf
        go_simp
      · intro a u hG hf
        simp [facts, Need.fact, Ent.val, Act.eval] at hf
        have q1 := (hG.1.cell (p := ⟨pb, 1, none⟩) (st3.lt 1 rfl) (by simp; omega)).trans y1
        go_simp
      · intro a u _ hf
        simp [facts, Need.fact, Ent.val, Act.eval] at hf
        go_simp
      · intro a u _ hf
        simp [facts, Need.fact, Ent.val, Act.eval] at hf
        go_simp
      · intro a u _ hf
        simp [facts, Need.fact, Ent.val, Act.eval] at hf
        go_simp
      · intro a u hG hf
        obtain ⟨⟨_, _, f1⟩, ⟨_, _, f2⟩, ⟨cs, g1, g2, g3⟩, -⟩ := hf
        have f1' : a.eval (.tmp 52) = .pointer (some ⟨b7, 2, none⟩) := f1
        have f2' : a.eval (.tmp 44) = .int .i64 (if b2 < p.1 then p.1 else b2) := f2
        exact ⟨f1', by rw [f2']; rfl, cs, g1, g2, by decide⟩
      · intro a u _ hf
        simp [facts, Need.fact, Ent.val, Act.eval] at hf
        go_simp
      · intro a u _ hf
        simp [facts, Need.fact, Ent.val, Act.eval] at hf
        go_simp
      · intro a u hG hf
        obtain ⟨⟨_, _, f1⟩, ⟨_, _, f2⟩, ⟨cs, g1, g2, g3⟩, -⟩ := hf
        have f1' : a.eval (.tmp 54) = .pointer (some ⟨b7, 3, none⟩) := f1
        have f2' : a.eval (.tmp 50) = .int .i64 (if b3 < p.2 then p.2 else b3) := f2
        exact ⟨f1', by rw [f2']; rfl, cs, g1, g2, by decide⟩
      intro uu lw hw wy hG hE hI hD
      obtain ⟨v0, v1, v2, v3, v4, v5, v6, v7, v8, v9, v10, v11, v12, v13, v14, v15, v16, v17, -⟩ := hE
      replace v0 : uu 0 = .pointer (some ⟨b7, 2, none⟩) := v0
      replace v1 : uu 1 = .pointer (some ⟨b7, 2, none⟩) := v1
      replace v2 : uu 2 = .int .i64 b2 := v2
      replace v3 : uu 3 = .pointer (some ⟨pb, 0, none⟩) := v3
      replace v4 : uu 4 = .int .i64 p.1 := v4
      replace v5 : uu 5 = .int .i64 (if b2 < p.1 then p.1 else b2) := v5
      replace v6 : uu 6 = .pointer (some ⟨b7, 2, none⟩) := v6
      replace v7 : uu 7 = .pointer (some ⟨b7, 3, none⟩) := v7
      replace v8 : uu 8 = .int .i64 b3 := v8
      replace v9 : uu 9 = .pointer (some ⟨pb, 1, none⟩) := v9
      replace v10 : uu 10 = .int .i64 p.2 := v10
      replace v11 : uu 11 = .int .i64 (if b3 < p.2 then p.2 else b3) := v11
      replace v12 : uu 12 = .pointer (some ⟨b7, 2, none⟩) := v12
      replace v13 : uu 13 = .pointer (some ⟨b7, 2, none⟩) := v13
      replace v15 : uu 15 = .pointer (some ⟨b7, 2, none⟩) := v15
      replace v16 : uu 16 = .pointer (some ⟨b7, 3, none⟩) := v16
      obtain ⟨hKp, cs, r1, r2, r3, r4⟩ := hG
      obtain ⟨cs1, r5, -, r6⟩ := v14
      obtain ⟨cs2, r7, -, r8⟩ := v17
      rw [r1] at r5 r7
      cases r5
      cases r7
      simp [allPut, Act.put, Act.eval, v5] at r6
      simp [allPut, Act.put, Act.eval, v11] at r8
      have hcs := arr4 r2 r3 r4 r6 r8
      rw [hcs] at r1
      simp only [allPut, Act.put, v0, v1, v2, v3, v4, v5, v6, v7, v8, v9, v10, v11, v12, v13, v15, v16]
      try simp only [List.setIfInBounds_toArray, List.set_cons_zero, List.set_cons_succ]
      have stX : Blk w wz [(w.heap.size, #[.int .i64 0, .int .i64 0, .int .i64 0, .int .i64 0], 42)] := ⟨(fun i x hx => by
        rcases i with _ | i
        · cases hx; exact st3.known 2 _ rfl
        · cases hx), st3.hb⟩
      have st4 := (stX.keep hKp (fun i x hx => by rcases i with _ | i <;> cases hx <;> simp <;> omega) (by intro z hz; simp at hz; omega)).add r1
      clear st3 stX hKp hI hD hrow0 r2 r3 r4 r6 r8 hcs y0 y1 v0 v1 v2 v3 v4 v5 v6 v7 v8 v9 v10 v11 v12 v13 v15 v16
      generalize uu 14 = z14 at *
      generalize uu 17 = z17 at *
      generalize (if b2 < p.1 then p.1 else b2) = m2 at *
      generalize (if b3 < p.2 then p.2 else b3) = m3 at *
      have hbk' : Blk w wy [(b7, #[.int .i64 (bxn l (k + 1)).1, .int .i64 (bxn l (k + 1)).2.1, .int .i64 (bxn l (k + 1)).2.2.1, .int .i64 (bxn l (k + 1)).2.2.2], 42), (w.heap.size, #[.int .i64 0, .int .i64 0, .int .i64 0, .int .i64 0], 42)] := by
        rw [hbk2.out]
        exact st4
      clear st4 hbk2
      go_wp2
      exact ⟨⟨k + 1, hlt, by go_num, hbk'⟩, by simp only [intOf]; omega⟩
    · obtain rfl : k = n := by omega
      have x0 := hst.cell 0 rfl 0
      have x1 := hst.cell 0 rfl 1
      have x2 := hst.cell 0 rfl 2
      have x3 := hst.cell 0 rfl 3
      simp only [List.getElem?_toArray, List.getElem?_cons_zero, List.getElem?_cons_succ] at x0 x1 x2 x3
      have f := fun o => hst.frozen 1 rfl o
      have z0 := hst.cell 1 rfl 0
      have z1 := hst.cell 1 rfl 1
      have z2 := hst.cell 1 rfl 2
      have z3 := hst.cell 1 rfl 3
      simp only [List.getElem?_toArray, List.getElem?_cons_zero, List.getElem?_cons_succ] at z0 z1 z2 z3
      generalize hbE : bxn l k = b at *
      obtain ⟨b0, b1, b2, b3⟩ := b
      go_wp2
      have hne2 : b7 ≠ w.heap.size := by omega
      have p0 := hst.put (o := 0) (v := .int .i64 b0) 1 rfl ⟨.inr hne2, .inl rfl, trivial⟩ (Nat.le_refl _)
      have p1 := p0.put (o := 1) (v := .int .i64 b1) 1 rfl ⟨.inr hne2, .inl rfl, trivial⟩ (Nat.le_refl _)
      have p2 := p1.put (o := 2) (v := .int .i64 b2) 1 rfl ⟨.inr hne2, .inl rfl, trivial⟩ (Nat.le_refl _)
      have p3 := p2.put (o := 3) (v := .int .i64 b3) 1 rfl ⟨.inr hne2, .inl rfl, trivial⟩ (Nat.le_refl _)
      simp only [List.set_cons_zero, List.set_cons_succ, List.setIfInBounds_toArray] at p3
      clear p0 p1 p2 hst x0 x1 x2 x3 z0 z1 z2 z3 f
      generalize (((wr.setCell _ _).setCell _ _).setCell _ _).setCell _ _ = w5 at *
      have d0 := p3.cell 1 rfl 0
      have d1 := p3.cell 1 rfl 1
      have d2 := p3.cell 1 rfl 2
      have d3 := p3.cell 1 rfl 3
      simp only [List.getElem?_toArray, List.getElem?_cons_zero, List.getElem?_cons_succ] at d0 d1 d2 d3
      exact bodyPost_ret (v := .agg #[.int .i64 b0, .int .i64 b1, .int .i64 b2, .int .i64 b3]) (by simp [results, Tryz.results27, go_sem, d0, d1, d2, d3]) rfl ⟨by first | rfl | simp only [hbE], p3.hb⟩
/-- spec.GeoRectIn -/
theorem gri_c (a b c d e f g h : Int) (w : World) :
    Calls Tryz.prog 26 #[.agg #[.int .i64 a, .int .i64 b, .int .i64 c, .int .i64 d], .agg #[.int .i64 e, .int .i64 f, .int .i64 g, .int .i64 h]] w fun e' w' => e' = .returned (.bool (gwi (a, b) (c, d) (e, f) && gwi (a, b) (c, d) (g, h))) ∧ Below w.heap.size w w' := by
  have st0 := ((Blk.nil w).push rfl #[.int .i64 a, .int .i64 b, .int .i64 c, .int .i64 d] 42).push (b := w.heap.size + 1) (by simp) #[.int .i64 e, .int .i64 f, .int .i64 g, .int .i64 h] 42
  obtain ⟨ans, hans⟩ : ∃ q, (gwi (a, b) (c, d) (e, f) && gwi (a, b) (c, d) (g, h)) = q := ⟨_, rfl⟩
  rw [hans]
  have x := fun o => st0.cell 1 rfl o
  have y := fun o => st0.cell 0 rfl o
  have x0 := x 0
  have x1 := x 1
  have x2 := x 2
  have x3 := x 3
  have y0 := y 0
  have y1 := y 1
  have y2 := y 2
  have y3 := y 3
  simp only [List.getElem?_toArray, List.getElem?_cons_zero, List.getElem?_cons_succ] at x0 x1 x2 x3 y0 y1 y2 y3
  clear x y
  go_enter Tryz.func26, Tryz.ntmps26
  go_wp2_with (go_at_call 50; refine JR.StopY.out ?_)
  refine ⟨?_⟩
  refine (gwi_c (a, b) (c, d) (e, f) _).mono ?_
  rintro e' w1 ⟨rfl, hb⟩
  have st1 := st0.ext hb
  clear hb st0 x0 x1 x2 x3 y0 y1 y2 y3
  cases h1 : gwi (a, b) (c, d) (e, f) with
  | false =>
    rw [h1, Bool.false_and] at hans
    subst hans
    go_wp2
    go_ret
    exact ⟨rfl, st1.hb⟩
  | true =>
  rw [h1, Bool.true_and] at hans
  subst hans
  have x := fun o => st1.cell 1 rfl o
  have y := fun o => st1.cell 0 rfl o
  have x0 := x 0
  have x1 := x 1
  have x2 := x 2
  have x3 := x 3
  have y2 := y 2
  have y3 := y 3
  simp only [List.getElem?_toArray, List.getElem?_cons_zero, List.getElem?_cons_succ] at x0 x1 x2 x3 y2 y3
  clear x y
  go_wp2_with (go_at_call 50; refine JR.StopY.out ?_)
  refine ⟨?_⟩
  refine (gwi_c (a, b) (c, d) (g, h) _).mono ?_
  rintro e' w2 ⟨rfl, hb⟩
  have st2 := st1.ext hb
  go_wp2
  go_ret
  exact ⟨rfl, st2.hb⟩
end Go.Proofs.YtbeoijpdacpaaaaGreat
set_option linter.unusedSimpArgs false
set_option linter.unusedVariables false
/-! laws.zzFits1, zzFits2, scenePoly, scenePoint (printed by gen/yk.py). -/
namespace Go.Proofs.YtbeoijpdacpaaaaGreat
open Go Go.RowKit PF JR
set_option maxHeartbeats 1000000 in
theorem fits2_c (H : List (List (Int × Int))) (hH : H.length ≤ 9223372036854775807) (hl : ∀ h ∈ H, h.length ≤ 9223372036854775807) (v : Value) (w : World) (hv : SlH w v H) :
    Calls Tryz.prog 39 #[v] w fun e w' => e = .returned (.bool (decide (H.length ≤ 2147483647) && H.all fun h => decide (h.length ≤ 2147483647))) ∧ Below w.heap.size w w' := by
  obtain ⟨A, c, rfl, hk⟩ := hv
  generalize hAns : (decide (H.length ≤ 2147483647) && H.all fun h => decide (h.length ≤ 2147483647)) = ans
  by_cases h0 : H.length ≤ 2147483647
  · have d0 : ¬ (2147483647 : Int) < (H.length : Int) := by omega
    have d1 := decide_eq_false d0
    rw [decide_eq_true h0, Bool.true_and] at hAns
    go_enter Tryz.func39, Tryz.ntmps39
    go_wp2
    go_loopw [10] (fun i wr => ∃ k : Nat, k ≤ H.length ∧ i = .int .i64 k ∧ (∀ h ∈ H.take k, h.length ≤ 2147483647) ∧ Below w.heap.size w wr) (fun i _ => H.length - (intOf i).toNat)
    case atStart => exact ⟨0, Nat.zero_le _, rfl, by simp, Below.refl _ _⟩
    case round =>
      obtain ⟨k, hkl, rfl, hall, hnx⟩ := hrel
      rcases Nat.lt_or_ge k H.length with hlt | hge
      · obtain ⟨h, hh⟩ : ∃ h, H[k]? = some h := ⟨H[k], by simp [hlt]⟩
        obtain ⟨b, off, vh, rfl, h1, h2⟩ := hk k h hh
        obtain ⟨A', c', rfl⟩ := h2.len
        have g1 := (hnx.cell (World.block_lt_of_cell? w _ h1)).trans h1
        have hlen := hl h (List.mem_of_getElem? hh)
        clear h1 h2 hk
        by_cases hb : h.length ≤ 2147483647
        · have d2 : ¬ (2147483647 : Int) < (h.length : Int) := by omega
          have d3 := decide_eq_false d2
          go_wp2
          go_roundw
          case rel =>
            refine ⟨k + 1, by omega, by go_num, ?_, hnx⟩
            intro x hx
            rw [List.take_add_one, hh] at hx
            simp at hx
            rcases hx with hx | rfl
            · exact hall x hx
            · exact hb
          case measure => simp [intOf]; omega
        · have d2 : (2147483647 : Int) < (h.length : Int) := by omega
          have d3 := decide_eq_true d2
          have hans : ans = false := by
            rw [← hAns]
            cases hx : H.all fun h => decide (h.length ≤ 2147483647) with
            | false => rfl
            | true =>
              rw [List.all_eq_true] at hx
              exact absurd (of_decide_eq_true (hx h (List.mem_of_getElem? hh))) hb
          clear hAns hall
          go_wp2
          go_ret
          exact ⟨by rw [hans]; rfl, hnx⟩
      · have hkk : k = H.length := by omega
        subst hkk
        rw [List.take_length] at hall
        have hans : ans = true := by
          rw [← hAns, List.all_eq_true]
          exact fun x hx => decide_eq_true (hall x hx)
        clear hAns hall hk
        go_wp2
        go_ret
        exact ⟨by rw [hans]; rfl, hnx⟩
  · have d0 : (2147483647 : Int) < (H.length : Int) := by omega
    have d1 := decide_eq_true d0
    rw [decide_eq_false h0, Bool.false_and] at hAns
    subst hAns
    go_enter Tryz.func39, Tryz.ntmps39
    go_wp2
    go_ret
    exact ⟨rfl, Below.refl _ _⟩

set_option maxHeartbeats 1000000 in
theorem fits1_c (l : List (Int × Int)) (H : List (List (Int × Int))) (hl0 : l.length ≤ 9223372036854775807) (hH : H.length ≤ 9223372036854775807) (hl : ∀ h ∈ H, h.length ≤ 9223372036854775807) (v vh : Value) (w : World) (hv : SlP w v l) (hh : SlH w vh H) :
    Calls Tryz.prog 15 #[.agg #[v, vh]] w fun e w' => e = .returned (.bool (decide (l.length ≤ 2147483647) && (decide (H.length ≤ 2147483647) && H.all fun h => decide (h.length ≤ 2147483647)))) ∧ Below w.heap.size w w' := by
  obtain ⟨A, c, rfl⟩ := hv.len
  have st0 := (Blk.nil w).push rfl #[.slice A l.length c, vh] 25
  have hh' := hh.below st0.hb
  by_cases h0 : l.length ≤ 2147483647
  · have d0 : ¬ (2147483647 : Int) < (l.length : Int) := by omega
    have d1 := decide_eq_false d0
    rw [decide_eq_true h0, Bool.true_and]
    have c8 := fun w h => fits2_c H hH hl vh w h
    generalize (decide (H.length ≤ 2147483647) && H.all fun h => decide (h.length ≤ 2147483647)) = ans at *
    go_enter Tryz.func15, Tryz.ntmps15
    go_wp2_with (go_at_call 39; refine (c8 _ hh').mono ?_; rintro e w1 ⟨rfl, hb⟩)
    all_goals cases ans
    all_goals first | (exfalso; simp at *; done) | skip
    all_goals
      go_wp2
      go_ret
      exact ⟨rfl, st0.hb.trans (hb.mono (by simp))⟩
  · have d0 : (2147483647 : Int) < (l.length : Int) := by omega
    have d1 := decide_eq_true d0
    rw [decide_eq_false h0, Bool.false_and]
    go_enter Tryz.func15, Tryz.ntmps15
    go_wp2
    go_ret
    exact ⟨rfl, st0.hb⟩
theorem infoPsS : (Tryz.prog.info? 31).map (fun i => (i.zero, i.size, i.bytes)) = some (some (.slice none 0 0), 1, 24) := by kernel_rfl
set_option maxRecDepth 100000 in
set_option maxHeartbeats 4000000 in
theorem scPo_r (l : List (Int × Int)) (H : List (List (Int × Int))) (hl : l.length ≤ 2147483647) (hl0 : 0 < l.length) (hH3 : H.length ≤ 3) (hHs : ∀ x ∈ H, 3 ≤ x.length ∧ x.length ≤ 12) (v vh : Value) (w : World) (hv : SlP w v l) (hvh : SlH w vh H) :
    Calls Tryz.prog 19 #[.agg #[v, vh]] w fun e w' => ∃ v' vh', e = .returned (.agg #[.int .i64 3, v', vh']) ∧ SlR w.heap.size w'.heap.size w' v' l ∧ SlHR w.heap.size w'.heap.size w' vh' H ∧ Below w.heap.size w w' := by
  obtain ⟨Av, cv, rfl, -⟩ := id hv
  obtain ⟨A, c, rfl, hk⟩ := id hvh
  obtain ⟨i0, hi, hz0, hz1, hz2⟩ := info_parts infoPsS
  have stP := ((Blk.nil w).push rfl #[.slice Av l.length cv, .slice A H.length c] 25).push (b := w.heap.size + 1) (by simp) #[.int .i64 0, .slice none 0 0, .slice none 0 0] 34
  have hlH : ∀ j, H.length = j → H.length = j := fun _ h => h
  clear hlH
  go_enter Tryz.func19, Tryz.ntmps19
  go_wp2_with (go_at_call 42; refine JR.StopY.out ?_)
  refine ⟨?_⟩
  refine (scp_n l hl _ _ (hv.below stP.hb)).mono ?_
  rintro e wa ⟨v5, rfl, hS, hb⟩
  obtain ⟨A5, c5, rfl, -⟩ := id hS
  have stA := stP.ext hb
  obtain ⟨b5, j1, j2, j3, r5⟩ := hS.one hl0
  have st1 := stA.push (b := wa.heap.size) rfl #[.int .i64 3, .slice A5 l.length c5, .slice none 0 0] 34
  have r5 := r5.keep' (w' := wa.alloc (.cells #[.int .i64 3, .slice A5 l.length c5, .slice none 0 0] 34)) fun b h1 h2 h3 => Below.heap_alloc wa _ b h3
  have hb5 : w.heap.size + 2 ≤ b5 := by simp at j1; omega
  have hb57 : b5 < wa.heap.size := j3
  have hsz7 : (wa.alloc (.cells #[.int .i64 3, .slice A5 l.length c5, .slice none 0 0] 34)).heap.size = wa.heap.size + 1 := by simp
  have m2 := st1.cell 2 rfl 1
  simp only [List.getElem?_toArray, List.getElem?_cons_zero, List.getElem?_cons_succ] at m2
  clear hb stP stA hS j1 j2 j3 hv hvh
  go_wp2
  generalize wa.alloc _ = wc at *
  generalize wa.heap.size = b7 at *
  have hb7 : w.heap.size + 3 ≤ b7 := by omega
  have hb7w : b7 < wc.heap.size := by omega
  obtain ⟨Bs, hBs⟩ : ∃ x, wc.heap.size = x := ⟨_, rfl⟩
  go_loopw [13] (fun i wr => ∃ k : Nat, k ≤ H.length ∧ i = .int .i64 k ∧ ∃ (vo : Value) (xs : List Value), wr.ownsRow Bs 31 1 vo k xs ∧
    (∀ (j : Nat) (x : List (Int × Int)), j < k → H[j]? = some x → ∃ y b, xs[j]? = some y ∧ Bs ≤ b ∧ b < wr.heap.size ∧ SlR b (b + 1) wr y x) ∧
    SlR b5 (b5 + 1) wr (.slice A5 l.length c5) l ∧ Bs ≤ wr.heap.size ∧ Blk w wr ((b7, #[.int .i64 3, .slice A5 l.length c5, vo], 34) :: [(w.heap.size + 1, #[.int .i64 0, .slice none 0 0, .slice none 0 0], 34), (w.heap.size, #[.slice Av l.length cv, .slice A H.length c], 25)])) (fun i _ => H.length - (intOf i).toNat)
  case atStart => exact ⟨0, Nat.zero_le _, rfl, .slice none 0 0, [], World.ownsRow_nil _ _ _ _, fun j x hj => absurd hj (Nat.not_lt_zero _), r5, Nat.le_of_eq hBs.symm, st1⟩
  case round =>
    clear r5 st1 m2
    obtain ⟨k, hkl, rfl, vo, xs, hown, hqs, hr5, hBr, hB⟩ := hrel
    rcases Nat.lt_or_ge k H.length with hlt | hge
    · obtain ⟨x, hx⟩ : ∃ x, H[k]? = some x := ⟨H[k], by simp [hlt]⟩
      obtain ⟨bb, off, y, rfl, h1, h2⟩ := hk k x hx
      obtain ⟨Ay, cy, hyy⟩ := h2.len
      subst hyy
      have hxs := hHs x (List.mem_of_getElem? hx)
      have hxl : x.length ≤ 12 := hxs.2
      have hxl0 : 0 < x.length := by omega
      have hlt' : (k : Int) < (H.length : Int) := by omega
      have gy := (hB.hb.cell (World.block_lt_of_cell? w _ h1)).trans h1
      have hfg := fun g (hg : vo.ownBlock = some g) => hown.lt g hg
      have hrow := hB.known 0 _ rfl
      have hb7r : b7 < wr.heap.size := hB.lt 0 rfl
      have hwr := hB.hb.size
      have hnb : b7 ∉ vo.ownBlock.toList := by intro hm; simp at hm; have := (hfg _ hm).1; omega
      have hX : ∀ z ∈ b7 :: vo.ownBlock.toList, w.heap.size ≤ z := by intro z hm; simp at hm; rcases hm with hm | hm; omega; have := (hfg _ hm).1; omega
      have hk3 : H.length ≤ 3 := hH3
      have hHp : ∀ x ∈ H, 3 ≤ x.length := fun x hx => (hHs x hx).1
      clear h1 hk hHs hxs
      go_wp2
      refine wp_region_K (b7 :: vo.ownBlock.toList) [.val (.pointer (some ⟨b7, 2, none⟩)), .val vo, .val (.slice Ay x.length cy), .slr x, .slcS 31 20, .appS vo k xs Bs 31 20, .val (.pointer (some ⟨b7, 2, none⟩)), .turnS b7 #[.int .i64 3, .slice A5 l.length c5, vo] 2 22 34]
        [[.ini 3], [.frm 0 17, .til 7], [.ini 5], [.frm 2 19], [.frm 3 20], [.frm 1 18, .frm 4 21, .til 5, .frm 3 20], [.ini 3], [.frm 6 23, .frm 5 22, .til 7]]
        mixed (by kernel_rfl) (by kernel_rfl) (allPre_of ⟨trivial, trivial, trivial, trivial, trivial, hown, trivial, hrow, trivial⟩)
        ⟨OpOk.quiet rfl ?_, OpOk.quiet rfl ?_, OpOk.quiet rfl ?_, OpOk.call rfl ?_, OpOk.slcS rfl ?_,
          OpOk.appS (inf := i0) rfl rfl Tryz.underlying32 hi hz0 hz1 hz2 rfl (by unfold maxLen; omega) (by omega) hBr (fun _ hG => hG.size) (fun b hb => (hfg b hb).2) (fun b hb => ⟨row_still rfl, row_still rfl, row_still rfl, row_none rfl (fun h => (nomatch h)), row_slcS, row_self rfl, row_still rfl, row_turnS (by have := (hfg b hb).1; omega), trivial⟩) (fun b hb => oldFree_of ⟨.inr (fun h => (nomatch h)), .inr (fun h => (nomatch h)), .inr (fun h => (nomatch h)), .inr (fun h => (nomatch h)), .inr (fun h => (nomatch h)), .inl rfl, .inr (fun h => (nomatch h)), .inr (by have := (hfg b hb).1; simp [Ent.turnS]; omega), trivial⟩) ?_ (fun _ b _ hb h => Keep.setRow h (.inr (by simp [hb]))),
          OpOk.quiet rfl ?_,
          OpOk.turnS rfl rfl (lt_of_some hrow) ⟨row_still rfl, row_still rfl, row_still rfl, row_none rfl (fun h => (nomatch h)), row_slcS, row_appS hnb, row_still rfl, row_self rfl, trivial⟩ (oldFree_of ⟨.inr (fun h => (nomatch h)), .inr (fun h => (nomatch h)), .inr (fun h => (nomatch h)), .inr (fun h => (nomatch h)), .inr (fun h => (nomatch h)), .inr hnb, .inr (fun h => (nomatch h)), .inl rfl, trivial⟩) (by kernel_rfl) (by simp) ?_ (fun _ _ h => Keep.setRow h (.inr (by simp))), trivial⟩ ?_
      · intro a u _ hf
        simp [facts, Need.fact, Act.eval] at hf
        go_simp
      · intro a u _ hf
        obtain ⟨⟨_, _, f1⟩, f2, -⟩ := hf
        have f1' : a.eval (.tmp 17) = .pointer (some ⟨b7, 2, none⟩) := f1
        have c11 := cellAt (show u.heap[b7]? = some (.cells #[.int .i64 3, .slice A5 l.length c5, vo] 34 (0, 0)) from f2) 2
        simp only [List.getElem?_toArray, List.getElem?_cons_zero, List.getElem?_cons_succ] at c11
        clear f1 f2
        simp [Act.eval] at f1'
        go_simp
      · intro a u _ hf
        simp [facts, Need.fact, Act.eval] at hf
        go_simp
      · intro a u hG hf
        simp [facts, Need.fact, Ent.val, Act.eval] at hf
        have s1 := h2.below (Keep.belowX hG hB.hb hB.hb.size hX)
        refine ⟨_, _, by go_simp, (scp_n x (by omega) _ _ s1).mono ?_⟩
        rintro e w' ⟨v', rfl, hr, hb⟩
        exact ⟨_, rfl, hb, hr⟩
      · intro a u _ hf
        obtain ⟨⟨_, _, f2⟩, -⟩ := hf
        obtain ⟨A9, c9, f3⟩ := SlR.len f2
        simp [Act.eval] at f3
        go_simp
      · intro a u _ hf
        obtain ⟨⟨_, _, f1⟩, ⟨_, _, b, f2, _, _, f3⟩, f4, ⟨_, _, f5⟩, -⟩ := hf
        obtain ⟨A9, c9, f6⟩ := SlR.len f5
        exact ⟨f1, f4, by rw [f6]; rfl, b, f2, f3⟩
      · intro a u _ hf
        simp [facts, Need.fact, Act.eval] at hf
        go_simp
      · intro a u _ hf
        obtain ⟨⟨_, _, f1⟩, ⟨_, _, f2, f5⟩, f4, -⟩ := hf
        exact ⟨f1, own_one f2, f4⟩
      intro u lw hw wc2 hKp hE hI hD
      simp [allE, Ent.appS, Ent.slcS, Ent.slr, Ent.turnS, Ent.val] at hE
      obtain ⟨u0, u1, u2, u3, -, u5, u6, e7⟩ := hE
      simp only [allPut, Act.put, u0, u2, u6]
      clear u0 u2 u6
      simp [allPut, Act.put, Act.eval] at e7
      replace u3 : SlR (lw 3) (hw 3) wc2 (u 3) x := u3
      obtain ⟨o6, -⟩ := u5
      simp [allPut, Act.put, Act.eval] at o6
      have i4 := hI 3 (by show 3 < 8; omega)
      have hBe := Keep.belowX hKp hB.hb hB.hb.size hX
      have hxsl : xs.length = k := by have := hown.1; omega
      have h00 : 0 < k → ∃ A m c, xs[0]? = some (.slice A m c) := by
        intro hk0
        obtain ⟨y0, b0, e1, e2, e3, e4⟩ := hqs 0 (H[0]'(by omega)) hk0 (by simp)
        obtain ⟨A', c', e4⟩ := e4.len
        exact ⟨A', _, c', by rw [e1, e4]⟩
      have hqs2 : ∀ (j : Nat) (x2 : List (Int × Int)), j < k + 1 → H[j]? = some x2 → ∃ y b, (xs ++ [u 3])[j]? = some y ∧ Bs ≤ b ∧ b < wc2.heap.size ∧ SlR b (b + 1) wc2 y x2 := by
        intro j x2 hj hx2
        by_cases hjk : j = k
        · subst hjk
          rw [hx] at hx2
          cases hx2
          obtain ⟨b1, j1, j2, j3, r1⟩ := u3.one hxl0
          exact ⟨u 3, b1, by rw [List.getElem?_append_right (by omega)]; simp [hxsl], by have := i4.2; omega, j3, r1⟩
        · obtain ⟨y', b', e1, e2, e3, e4⟩ := hqs j x2 (by omega) hx2
          have hx20 : 0 < x2.length := by
            have := hHp x2 (List.mem_of_getElem? hx2); omega
          have hne := own_neR hown (h00 (by omega)) e4 hx20
          refine ⟨y', b', by rw [List.getElem?_append_left (by omega)]; exact e1, e2, Nat.lt_of_lt_of_le e3 hKp.size, e4.keep' fun b h1 h2 h3 => ?_⟩
          have hbb : b = b' := by omega
          subst hbb
          exact hKp.block b h3 (by
            intro hm
            simp at hm
            rcases hm with hm | hm
            · omega
            · exact hne hm.symm)
      have hr52 := hr5.keep' (w' := wc2) fun b h1 h2 h3 => hKp.block b h3 (by
        intro hm
        simp at hm
        rcases hm with hm | hm
        · omega
        · have := (hfg _ hm).1; omega)
      have hB2 := (hB.tail.keep hKp (fun i z hz => by
        intro hm
        simp at hm
        rcases i with _ | _ | i <;> simp at hz <;> subst hz <;> simp at hm <;> (rcases hm with hm | hm; omega; have := (hfg _ hm).1; omega)) (fun z hz => hX z hz)).add e7
      have hBs2 : Bs ≤ wc2.heap.size := Nat.le_trans hBr hKp.size
      try simp only [List.setIfInBounds_toArray, List.set_cons_zero, List.set_cons_succ]
      simp only [u1]
      generalize u 5 = y5 at *
      generalize u 4 = y4 at *
      generalize u 3 = y3 at *
      clear hKp hI hD e7 u1 u3 i4 hBe hqs hr5 hB hown hrow gy h2 h00 hnb hX hfg hx
      go_wp2
      go_roundw
      case rel => exact ⟨k + 1, by omega, by go_num, _, _, o6, hqs2, hr52, hBs2, hB2⟩
      case measure => simp [intOf]; omega
    · have hkk : k = H.length := by omega
      subst hkk
      have hol := SlH.own (H := H) (by simpa using hown) (fun j x hj hx => by
        obtain ⟨y, b, e1, -, -, e2⟩ := hqs j x hj hx
        exact ⟨y, e1, e2.p⟩)
      have n0 := hB.cell 0 rfl 0
      have n1 := hB.cell 0 rfl 1
      have n2 := hB.cell 0 rfl 2
      have ff := fun o => hB.frozen 1 rfl o
      have p0 := hB.cell 1 rfl 0
      have p1 := hB.cell 1 rfl 1
      have p2 := hB.cell 1 rfl 2
      simp only [List.getElem?_toArray, List.getElem?_cons_zero, List.getElem?_cons_succ] at n0 n1 n2 p0 p1 p2
      obtain ⟨Ao, co, hvo⟩ : ∃ A c, vo = .slice A H.length c := by
        obtain ⟨A, c, h1, -⟩ := id hol
        exact ⟨A, c, by simpa using h1⟩
      subst hvo
      have hne1 : w.heap.size + 1 ≠ b7 := by omega
      have hap : ∀ q r : Array Value, apart (w.heap.size + 1) 1 0 ((b7, q, 34) :: (w.heap.size + 1, r, 34) :: [(w.heap.size, #[.slice Av l.length cv, .slice A H.length c], 25)]) := fun q r => ⟨.inr (by show _ ≠ _; omega), .inl rfl, .inr (by show _ ≠ _; omega), trivial⟩
      clear hk hHs hol
      have st2 := ((hB.put 1 (o := 0) (v := .int .i64 3) rfl (hap _ _) (by omega)).put 1 (o := 1) (v := .slice A5 l.length c5) rfl (hap _ _) (by omega)).put 1 (o := 2) (v := .slice Ao H.length co) rfl (hap _ _) (by omega)
      have hgr : wr.grownBy (((wr.setCell ⟨w.heap.size + 1, 0, none⟩ (.int .i64 3)).setCell ⟨w.heap.size + 1, 1, none⟩ (.slice A5 l.length c5)).setCell ⟨w.heap.size + 1, 2, none⟩ (.slice Ao H.length co)) (some (w.heap.size + 1)) :=
        ⟨rfl, rfl, rfl, by simp, fun k hk hne => (Below.heap_setCell _ _ _ _ (fun h => hne (by rw [h]))).trans ((Below.heap_setCell _ _ _ _ (fun h => hne (by rw [h]))).trans (Below.heap_setCell _ _ _ _ (fun h => hne (by rw [h]))))⟩
      have hown2 := hown.kept hgr (.inr (fun h => by have := (hown.lt _ h).1; omega))
      have sp2 := (hr5.keep' (w' := (((wr.setCell ⟨w.heap.size + 1, 0, none⟩ (.int .i64 3)).setCell ⟨w.heap.size + 1, 1, none⟩ (.slice A5 l.length c5)).setCell ⟨w.heap.size + 1, 2, none⟩ (.slice Ao H.length co))) (fun b h1 h2 h3 => hgr.block b h3 (by simp; omega))).wide (l' := w.heap.size) (h' := ((((wr.setCell ⟨w.heap.size + 1, 0, none⟩ (.int .i64 3)).setCell ⟨w.heap.size + 1, 1, none⟩ (.slice A5 l.length c5)).setCell ⟨w.heap.size + 1, 2, none⟩ (.slice Ao H.length co))).heap.size) (by omega) (by simp; omega)
      have hol2 := SlHR.own (lo := w.heap.size) (hi := ((((wr.setCell ⟨w.heap.size + 1, 0, none⟩ (.int .i64 3)).setCell ⟨w.heap.size + 1, 1, none⟩ (.slice A5 l.length c5)).setCell ⟨w.heap.size + 1, 2, none⟩ (.slice Ao H.length co))).heap.size) (H := H) (by simpa using hown2) (by omega) (Nat.le_refl _) (fun j x hj hx => by
        obtain ⟨y, b, e1, e3, e4, e2⟩ := hqs j x hj hx
        exact ⟨y, e1, (e2.keep' (fun b h1 h2 h3 => hgr.block b h3 (by simp; omega))).wide (by omega) (by simp; omega)⟩)
      clear hgr hown2 hqs hr5 hown hB hap
      go_wp2
      simp only [List.set_cons_zero, List.set_cons_succ, List.setIfInBounds_toArray] at st2
      generalize ((wr.setCell _ _).setCell _ _).setCell _ _ = w9 at *
      have t0 := st2.cell 1 rfl 0
      have t1 := st2.cell 1 rfl 1
      have t2 := st2.cell 1 rfl 2
      simp at t0 t1 t2
      exact bodyPost_ret (v := .agg #[.int .i64 3, .slice A5 l.length c5, .slice Ao H.length co]) (by simp [results, Tryz.results19, go_sem, t0, t1, t2]) rfl ⟨_, _, rfl, sp2, hol2, st2.hb⟩
/-- a polygon's shape, a line's shape, made within a drawn region -/
def _root_.JR.Ent.sPo (L : List (Int × Int)) (H : List (List (Int × Int))) : Ent := .rel (fun v l h w => ∃ v' vh', v = .agg #[.int .i64 3, v', vh'] ∧ SlR l h w v' L ∧ SlHR l h w vh' H) (fun _ _ _ _ _ hk ⟨v', vh', h1, h2, h3⟩ => ⟨v', vh', h1, h2.keep hk, h3.keep hk⟩)
def _root_.JR.Ent.sLn (K : Int) (L : List (Int × Int)) : Ent := .rel (fun v l h w => ∃ v', v = .agg #[.int .i64 K, v', .slice none 0 0] ∧ SlR l h w v' L) (fun _ _ _ _ _ hk ⟨v', h1, h2⟩ => ⟨v', h1, h2.keep hk⟩)
end Go.Proofs.YtbeoijpdacpaaaaGreat
set_option linter.unusedSimpArgs false
set_option linter.unusedVariables false
/-! FnSceneAround: the walk (printed by gen/yo.py). -/
namespace Go.Proofs.YtbeoijpdacpaaaaGreat
open Go Go.RowKit PF JR
theorem bxn_spec (l : List (Int × Int)) (h : 0 < l.length) : ∀ n, n ≤ l.length → ((∀ j, j < n ∨ j = 0 → (bxn l n).1 ≤ (at' l j).1 ∧ (bxn l n).2.1 ≤ (at' l j).2 ∧ (at' l j).1 ≤ (bxn l n).2.2.1 ∧ (at' l j).2 ≤ (bxn l n).2.2.2) ∧ (∃ p ∈ l, p.1 = (bxn l n).1) ∧ (∃ p ∈ l, p.2 = (bxn l n).2.1) ∧ (∃ p ∈ l, p.1 = (bxn l n).2.2.1) ∧ (∃ p ∈ l, p.2 = (bxn l n).2.2.2)) := by
  have m : ∀ j, j < l.length → at' l j ∈ l := fun j hj => List.mem_of_getElem? (at_get hj)
  intro n
  induction n with
  | zero =>
    intro _
    refine ⟨fun j hj => ?_, ⟨_, m 0 h, rfl⟩, ⟨_, m 0 h, rfl⟩, ⟨_, m 0 h, rfl⟩, ⟨_, m 0 h, rfl⟩⟩
    obtain rfl : j = 0 := by omega
    unfold bxn; simp
  | succ n ih =>
    intro hn
    obtain ⟨h1, ⟨p1, q1, r1⟩, ⟨p2, q2, r2⟩, ⟨p3, q3, r3⟩, ⟨p4, q4, r4⟩⟩ := ih (by omega)
    have mn := m n (by omega)
    rw [show bxn l (n + 1) = bxp (bxn l n) (at' l n) from rfl]
    generalize bxn l n = b at *
    obtain ⟨b0, b1, b2, b3⟩ := b
    unfold bxp
    simp only at *
    refine ⟨fun j hj => ?_, ?_, ?_, ?_, ?_⟩
    · by_cases hjn : j = n
      · subst hjn
        have := h1 0 (.inr rfl)
        split <;> split <;> split <;> split <;> omega
      · have := h1 j (by omega)
        split <;> split <;> split <;> split <;> omega
    · split
      · exact ⟨_, mn, rfl⟩
      · exact ⟨_, q1, r1⟩
    · split
      · exact ⟨_, mn, rfl⟩
      · exact ⟨_, q2, r2⟩
    · split
      · exact ⟨_, mn, rfl⟩
      · exact ⟨_, q3, r3⟩
    · split
      · exact ⟨_, mn, rfl⟩
      · exact ⟨_, q4, r4⟩
theorem bxn_box (l : List (Int × Int)) (h : 0 < l.length) : bxn l l.length = box l := by
  obtain ⟨h1, ⟨p1, q1, r1⟩, ⟨p2, q2, r2⟩, ⟨p3, q3, r3⟩, ⟨p4, q4, r4⟩⟩ := bxn_spec l h l.length (Nat.le_refl _)
  obtain ⟨g1, ⟨s1, t1, u1⟩, ⟨s2, t2, u2⟩, ⟨s3, t3, u3⟩, ⟨s4, t4, u4⟩⟩ := box_spec l h
  have hm : ∀ p ∈ l, (bxn l l.length).1 ≤ p.1 ∧ (bxn l l.length).2.1 ≤ p.2 ∧ p.1 ≤ (bxn l l.length).2.2.1 ∧ p.2 ≤ (bxn l l.length).2.2.2 := fun p hp => by
    obtain ⟨j, hj, e⟩ := List.mem_iff_getElem.1 hp
    have := h1 j (.inl hj)
    rwa [show at' l j = p by unfold at'; rw [List.getD_eq_getElem?_getD, List.getElem?_eq_getElem hj, e]; rfl] at this
  have a1 := g1 p1 q1; have a2 := g1 p2 q2; have a3 := g1 p3 q3; have a4 := g1 p4 q4
  have b1 := hm s1 t1; have b2 := hm s2 t2; have b3 := hm s3 t3; have b4 := hm s4 t4
  refine Prod.ext ?_ (Prod.ext ?_ (Prod.ext ?_ ?_)) <;> omega
theorem gri_bc {a b c d : Int} (hr : a < c ∧ b < d) (x : Int × Int × Int × Int) (hx : x.1 ≤ x.2.2.1 ∧ x.2.1 ≤ x.2.2.2) : (gwi (a, b) (c, d) (x.1, x.2.1) && gwi (a, b) (c, d) (x.2.2.1, x.2.2.2)) = bcB (a, b, c, d) x := by
  unfold gwi bcB
  rw [Bool.eq_iff_iff, Bool.and_eq_true, decide_eq_true_iff, decide_eq_true_iff, decide_eq_true_iff]
  simp only
  omega
theorem box_le (l : List (Int × Int)) (h : 0 < l.length) : (box l).1 ≤ (box l).2.2.1 ∧ (box l).2.1 ≤ (box l).2.2.2 := by
  obtain ⟨g1, ⟨s1, t1, u1⟩, -⟩ := box_spec l h
  have := g1 s1 t1
  omega
/-- what IsScenePolygon lets in -/
theorem scp_facts {l : List (Int × Int)} {H : List (List (Int × Int))} (h : scpB l H = true) : (3 ≤ l.length ∧ l.length ≤ 12 ∧ ∀ p ∈ l, okS p = true) ∧ H.length ≤ 2 ∧ ∀ x ∈ H, 3 ≤ x.length ∧ x.length ≤ 6 ∧ ∀ p ∈ x, okS p = true := by
  unfold scpB at h
  simp only [Bool.and_eq_true, decide_eq_true_eq, Bool.not_eq_true'] at h
  obtain ⟨h1, h2, h3⟩ := h
  refine ⟨sim_bs h1, h2, fun x hx => ?_⟩
  obtain ⟨j, hj, e⟩ := List.mem_iff_getElem.1 hx
  have h4 := anyN_pre h3 hj
  have e2 : H.getD j [] = x := by rw [List.getD_eq_getElem?_getD, List.getElem?_eq_getElem hj, e]; rfl
  unfold scBad at h4
  rw [e2] at h4
  simp only [Bool.or_eq_false_iff, decide_eq_false_iff_not, Bool.not_eq_false'] at h4
  obtain ⟨g1, g2, g3⟩ := sim_bs h4.2.1
  exact ⟨g1, by omega, g3⟩
theorem okS_3 {p : Int × Int} (h : okS p = true) : Bn3 p := by
  have := of_decide_eq_true h
  unfold Bn3; omega
theorem scp_ok {l : List (Int × Int)} {H : List (List (Int × Int))} (h : scpB l H = true) : ShOk 3 l H := by
  obtain ⟨⟨h1, h2, h3⟩, h4, h5⟩ := scp_facts h
  refine ⟨fun p hp => okS_3 (h3 p hp), by omega, fun x hx => ?_, .inr (.inr (.inr ⟨rfl, h1, h2⟩))⟩
  obtain ⟨g1, g2, g3⟩ := h5 x hx
  exact ⟨g1, by omega, fun p hp => okS_3 (g3 p hp)⟩
set_option maxRecDepth 100000 in
set_option maxHeartbeats 8000000 in
theorem arw_c (a b c d : Int) (l : List (Int × Int)) (H : List (List (Int × Int))) (m : List (Int × Int)) (hl0 : l.length ≤ 9223372036854775807) (hH0 : H.length ≤ 9223372036854775807) (hHH0 : ∀ h ∈ H, h.length ≤ 9223372036854775807) (hm0 : m.length ≤ 9223372036854775807) (vg vh v : Value) (w : World) (hvg : SlP w vg l) (hvh : SlH w vh H) (hcap : CapOk vh) (hv : SlP w v m) :
    Calls Tryz.prog 4 #[.agg #[.int .i64 a, .int .i64 b, .int .i64 c, .int .i64 d], .agg #[vg, vh], v] w fun e w' => e = .returned (.bool true) ∧ Below w.heap.size w w' := by
  obtain ⟨A, cc, rfl, -⟩ := id hv
  obtain ⟨Ag, cg, rfl, -⟩ := id hvg
  obtain ⟨Ah, ch, rfl, -⟩ := id hvh
  have st0 := ((Blk.nil w).push rfl #[.int .i64 a, .int .i64 b, .int .i64 c, .int .i64 d] 42).push (b := w.heap.size + 1) (by simp) #[.slice Ag l.length cg, .slice Ah H.length ch] 25
  have hfit := fun u h1 h2 => fits1_c l H hl0 hH0 hHH0 (.slice Ag l.length cg) (.slice Ah H.length ch) u h1 h2
  have hHg : ∀ k, (H.getD k []).length ≤ 9223372036854775807 := fun k => by
    rcases Nat.lt_or_ge k H.length with g | g
    · rw [List.getD_eq_getElem?_getD, List.getElem?_eq_getElem g]; exact hHH0 _ (List.getElem_mem g)
    · rw [List.getD_eq_getElem?_getD, List.getElem?_eq_none g]; simp
  have hscp := fun u h1 h2 => iscp_c l H hl0 hHg (.slice Ag l.length cg) (.slice Ah H.length ch) u h1 h2 hcap
  have hisc := fun u hu => isc_c m 8 hm0 (.slice A m.length cc) u hu
  have hisr := fun u => isr_c a b c d u
  cases hft : (decide (l.length ≤ 2147483647) && (decide (H.length ≤ 2147483647) && H.all fun h => decide (h.length ≤ 2147483647))) with
  | false =>
    simp only [hft] at hfit
    clear hscp hisc hisr hft
    generalize l.length = ng at *
    generalize H.length = nh at *
    generalize m.length = n at *
    go_enter Tryz.func4, Tryz.ntmps4
    go_wp2_with (go_at_call 15; refine JR.StopY.out ?_)
    refine ⟨?_⟩
    refine (hfit _ (hvg.below st0.hb) (hvh.below st0.hb)).mono ?_
    rintro e w1 ⟨rfl, hb⟩
    have st1 := st0.ext hb
    clear hb st0
    go_wp2
    go_ret
    exact ⟨rfl, st1.hb⟩
  | true =>
  simp only [hft] at hfit
  by_cases c1 : (2147483647 : Int) < (m.length : Int)
  · have d1' := decide_eq_true c1
    clear hscp hisc hisr hft
    generalize l.length = ng at *
    generalize H.length = nh at *
    generalize m.length = n at *
    go_enter Tryz.func4, Tryz.ntmps4
    go_wp2_with (go_at_call 15; refine JR.StopY.out ?_)
    refine ⟨?_⟩
    refine (hfit _ (hvg.below st0.hb) (hvh.below st0.hb)).mono ?_
    rintro e w1 ⟨rfl, hb⟩
    have st1 := st0.ext hb
    clear hb st0
    go_wp2
    go_ret
    exact ⟨rfl, st1.hb⟩
  have d1 : ¬ (2147483647 : Int) < (m.length : Int) := c1
  have d1' := decide_eq_false d1
  cases hr : isrB a b c d with
  | false =>
    simp only [hr] at hisr
    clear hscp hisc hft
    generalize l.length = ng at *
    generalize H.length = nh at *
    generalize m.length = n at *
    go_enter Tryz.func4, Tryz.ntmps4
    go_wp2_with (go_at_call 15; refine JR.StopY.out ?_)
    refine ⟨?_⟩
    refine (hfit _ (hvg.below st0.hb) (hvh.below st0.hb)).mono ?_
    rintro e w1 ⟨rfl, hb⟩
    have st1 := st0.ext hb
    clear hb st0
    have z0 := st1.cell 1 rfl 0
    have z1 := st1.cell 1 rfl 1
    have z2 := st1.cell 1 rfl 2
    have z3 := st1.cell 1 rfl 3
    simp only [List.getElem?_toArray, List.getElem?_cons_zero, List.getElem?_cons_succ] at z0 z1 z2 z3
    go_wp2_with (go_at_call 23; refine JR.StopY.out ?_)
    refine ⟨?_⟩
    refine (hisr _).mono ?_
    rintro e w2 ⟨rfl, hb⟩
    have st2 := st1.ext hb
    clear hb st1
    clear z0 z1 z2 z3
    go_wp2
    go_ret
    exact ⟨rfl, st2.hb⟩
  | true =>
  simp only [hr] at hisr
  cases hsc : scpB l H with
  | false =>
    simp only [hsc] at hscp
    clear hisc hft
    generalize l.length = ng at *
    generalize H.length = nh at *
    generalize m.length = n at *
    go_enter Tryz.func4, Tryz.ntmps4
    go_wp2_with (go_at_call 15; refine JR.StopY.out ?_)
    refine ⟨?_⟩
    refine (hfit _ (hvg.below st0.hb) (hvh.below st0.hb)).mono ?_
    rintro e w1 ⟨rfl, hb⟩
    have st1 := st0.ext hb
    clear hb st0
    have z0 := st1.cell 1 rfl 0
    have z1 := st1.cell 1 rfl 1
    have z2 := st1.cell 1 rfl 2
    have z3 := st1.cell 1 rfl 3
    simp only [List.getElem?_toArray, List.getElem?_cons_zero, List.getElem?_cons_succ] at z0 z1 z2 z3
    go_wp2_with (go_at_call 23; refine JR.StopY.out ?_)
    refine ⟨?_⟩
    refine (hisr _).mono ?_
    rintro e w2 ⟨rfl, hb⟩
    have st2 := st1.ext hb
    clear hb st1
    clear z0 z1 z2 z3
    have z0 := st2.cell 0 rfl 0
    have z1 := st2.cell 0 rfl 1
    simp only [List.getElem?_toArray, List.getElem?_cons_zero, List.getElem?_cons_succ] at z0 z1
    go_wp2_with (go_at_call 16; refine JR.StopY.out ?_)
    refine ⟨?_⟩
    refine (hscp _ (hvg.below st2.hb) (hvh.below st2.hb)).mono ?_
    rintro e w3 ⟨rfl, hb⟩
    have st3 := st2.ext hb
    clear hb st2
    clear z0 z1
    go_wp2
    go_ret
    exact ⟨rfl, st3.hb⟩
  | true =>
  simp only [hsc] at hscp
  by_cases hl2 : (m.length : Int) < 2
  · have d2' := decide_eq_true hl2
    clear hisc hft
    generalize l.length = ng at *
    generalize H.length = nh at *
    generalize m.length = n at *
    go_enter Tryz.func4, Tryz.ntmps4
    go_wp2_with (go_at_call 15; refine JR.StopY.out ?_)
    refine ⟨?_⟩
    refine (hfit _ (hvg.below st0.hb) (hvh.below st0.hb)).mono ?_
    rintro e w1 ⟨rfl, hb⟩
    have st1 := st0.ext hb
    clear hb st0
    have z0 := st1.cell 1 rfl 0
    have z1 := st1.cell 1 rfl 1
    have z2 := st1.cell 1 rfl 2
    have z3 := st1.cell 1 rfl 3
    simp only [List.getElem?_toArray, List.getElem?_cons_zero, List.getElem?_cons_succ] at z0 z1 z2 z3
    go_wp2_with (go_at_call 23; refine JR.StopY.out ?_)
    refine ⟨?_⟩
    refine (hisr _).mono ?_
    rintro e w2 ⟨rfl, hb⟩
    have st2 := st1.ext hb
    clear hb st1
    clear z0 z1 z2 z3
    have z0 := st2.cell 0 rfl 0
    have z1 := st2.cell 0 rfl 1
    simp only [List.getElem?_toArray, List.getElem?_cons_zero, List.getElem?_cons_succ] at z0 z1
    go_wp2_with (go_at_call 16; refine JR.StopY.out ?_)
    refine ⟨?_⟩
    refine (hscp _ (hvg.below st2.hb) (hvh.below st2.hb)).mono ?_
    rintro e w3 ⟨rfl, hb⟩
    have st3 := st2.ext hb
    clear hb st2
    clear z0 z1
    go_wp2
    go_ret
    exact ⟨rfl, st3.hb⟩
  have d2 : ¬ (m.length : Int) < 2 := hl2
  have d2' := decide_eq_false d2
  cases h8 : iscB m 8 with
  | false =>
    simp only [h8] at hisc
    clear hft
    generalize l.length = ng at *
    generalize H.length = nh at *
    generalize m.length = n at *
    go_enter Tryz.func4, Tryz.ntmps4
    go_wp2_with (go_at_call 15; refine JR.StopY.out ?_)
    refine ⟨?_⟩
    refine (hfit _ (hvg.below st0.hb) (hvh.below st0.hb)).mono ?_
    rintro e w1 ⟨rfl, hb⟩
    have st1 := st0.ext hb
    clear hb st0
    have z0 := st1.cell 1 rfl 0
    have z1 := st1.cell 1 rfl 1
    have z2 := st1.cell 1 rfl 2
    have z3 := st1.cell 1 rfl 3
    simp only [List.getElem?_toArray, List.getElem?_cons_zero, List.getElem?_cons_succ] at z0 z1 z2 z3
    go_wp2_with (go_at_call 23; refine JR.StopY.out ?_)
    refine ⟨?_⟩
    refine (hisr _).mono ?_
    rintro e w2 ⟨rfl, hb⟩
    have st2 := st1.ext hb
    clear hb st1
    clear z0 z1 z2 z3
    have z0 := st2.cell 0 rfl 0
    have z1 := st2.cell 0 rfl 1
    simp only [List.getElem?_toArray, List.getElem?_cons_zero, List.getElem?_cons_succ] at z0 z1
    go_wp2_with (go_at_call 16; refine JR.StopY.out ?_)
    refine ⟨?_⟩
    refine (hscp _ (hvg.below st2.hb) (hvh.below st2.hb)).mono ?_
    rintro e w3 ⟨rfl, hb⟩
    have st3 := st2.ext hb
    clear hb st2
    clear z0 z1
    go_wp2_with (go_at_call 17; refine JR.StopY.out ?_)
    refine ⟨?_⟩
    refine (hisc _ (hv.below st3.hb)).mono ?_
    rintro e w4 ⟨rfl, hb⟩
    have st4 := st3.ext hb
    clear hb st3
    go_wp2
    go_ret
    exact ⟨rfl, st4.hb⟩
  | true =>
  simp only [h8] at hisc
  have hmz : m.length ≤ 2147483647 := by omega
  have hm2 : 2 ≤ m.length := by omega
  obtain ⟨⟨g3, g12, gok⟩, hH2, hHs⟩ := scp_facts hsc
  obtain ⟨hm8, hmok⟩ := isc_le h8
  have hrr := hr
  unfold isrB at hrr
  rw [Bool.and_eq_true, Bool.and_eq_true, decide_eq_true_iff, decide_eq_true_iff] at hrr
  obtain ⟨hr1, hac, hbd⟩ := hrr
  obtain ⟨-, hrok⟩ := isc_le hr1
  have ok1 : ShOk 1 [(a, b), (c, d)] [] := ⟨(okS_b hrok).2, by simp, by simp, .inr (.inl ⟨rfl, a, b, c, d, rfl, hac, hbd⟩)⟩
  have ok3 := scp_ok hsc
  have ok2 : ShOk 2 m [] := ⟨(okS_b hmok).2, by simp, by simp, .inr (.inr (.inl ⟨rfl, by omega, by omega⟩))⟩
  have hpo := fun u h1 h2 => scPo_r l H (by omega) (by omega) (by omega) (fun x hx => ⟨(hHs x hx).1, by have := (hHs x hx).2.1; omega⟩) (.slice Ag l.length cg) (.slice Ah H.length ch) u h1 h2
  have hln := fun u hu => scLn_r m (by omega) (.slice A m.length cc) u hu
  have hgr1 := fun u hu => grc_c l (by omega) (by omega) (.slice Ag l.length cg) u hu
  have hgr2 := fun u hu => grc_c m (by omega) (by omega) (.slice A m.length cc) u hu
  rw [bxn_box l (by omega)] at hgr1
  rw [bxn_box m (by omega)] at hgr2
  have hin1 := fun u => gri_c a b c d (box l).1 (box l).2.1 (box l).2.2.1 (box l).2.2.2 u
  have hin2 := fun u => gri_c a b c d (box m).1 (box m).2.1 (box m).2.2.1 (box m).2.2.2 u
  simp only [gri_bc ⟨hac, hbd⟩ (box l) (box_le l (by omega))] at hin1
  simp only [gri_bc ⟨hac, hbd⟩ (box m) (box_le m (by omega))] at hin2
  have e1 : hdS 1 [(a, b), (c, d)] [] 3 l H = bcB (a, b, c, d) (box l) := by
    have : ppB true l = box l := ppB_3 g3
    simp [hdS, byK, at', this]
  have e2 : hdS 1 [(a, b), (c, d)] [] 2 m [] = bcB (a, b, c, d) (box m) := by
    have : ppB false m = box m := by unfold ppB tooS; rw [if_neg (by simp)]
    simp [hdS, byK, at', this]
  have hask1 := fun (k1 : Nat) (A1 : Option Addr) u v1 v2 (s1 : SlP u (.slice A1 2 k1) [(a, b), (c, d)]) (s2 : SlP u v1 l) (s3 : SlH u v2 H) => ask_sc (X := 0) (by omega) 1 _ _ ok1 3 l H (.inr (.inl rfl)) ok3 (.slice A1 2 k1) (.slice none 0 0) v1 v2 u s1 (SlH_nil _ 0 none) s2 s3
  have hask2 := fun (k1 : Nat) (A1 : Option Addr) u v1 (s1 : SlP u (.slice A1 2 k1) [(a, b), (c, d)]) (s2 : SlP u v1 m) => ask_sc (X := 0) (by omega) 1 _ _ ok1 2 m [] (.inr (.inl rfl)) ok2 (.slice A1 2 k1) (.slice none 0 0) v1 (.slice none 0 0) u s1 (SlH_nil _ 0 none) s2 (SlH_nil _ 0 none)
  simp only [e1] at hask1
  simp only [e2] at hask2
  generalize hq1 : bcB (a, b, c, d) (box l) = h1 at *
  generalize hq2 : bcB (a, b, c, d) (box m) = h2 at *
  have hho1 : ∀ (k1 : Nat) (A1 : Option Addr) u v1 v2, SlP u (.slice A1 2 k1) [(a, b), (c, d)] → SlP u v1 l → SlH u v2 H → Calls Tryz.prog 25 #[.agg #[.int .i64 1, .slice A1 2 k1, .slice none 0 0], .agg #[.int .i64 3, v1, v2]] u fun e w' => e = .returned (.bool h1) ∧ Below u.heap.size u w' := by
    intro k1 A1 u v1 v2 s1 s2 s3
    obtain ⟨A7, k7, rfl, -⟩ := id s2
    obtain ⟨A8, k8, rfl, -⟩ := id s3
    exact hol_c 1 3 A1 none A7 A8 2 0 _ _ k1 0 k7 k8 h1 _ u (fun z hz => hask1 k1 A1 z _ _ (s1.below hz) (s2.below hz) (s3.below hz))
  have hho2 : ∀ (k1 : Nat) (A1 : Option Addr) u v1, SlP u (.slice A1 2 k1) [(a, b), (c, d)] → SlP u v1 m → Calls Tryz.prog 25 #[.agg #[.int .i64 1, .slice A1 2 k1, .slice none 0 0], .agg #[.int .i64 2, v1, .slice none 0 0]] u fun e w' => e = .returned (.bool h2) ∧ Below u.heap.size u w' := by
    intro k1 A1 u v1 s1 s2
    obtain ⟨A7, k7, rfl, -⟩ := id s2
    exact hol_c 1 2 A1 none A7 none 2 0 _ 0 k1 0 k7 0 h2 _ u (fun z hz => hask2 k1 A1 z _ (s1.below hz) (s2.below hz))
  clear hask1 hask2 e1 e2 ok1 ok2 ok3 hq1 hq2 hft hmz hHs gok hmok hrok hHg hHH0 hl0 hH0 hm0
  generalize box l = bl at *
  generalize box m = bm at *
  obtain ⟨x0, x1, x2, x3⟩ := bl
  obtain ⟨y0, y1, y2, y3⟩ := bm
  simp only at hgr1 hgr2 hin1 hin2
  generalize hng : l.length = ng at *
  generalize hnh : H.length = nh at *
  generalize hnm : m.length = n at *
  go_enter Tryz.func4, Tryz.ntmps4
  go_wp2_with (go_at_call 15; refine JR.StopY.out ?_)
  refine ⟨?_⟩
  refine (hfit _ (hvg.below st0.hb) (hvh.below st0.hb)).mono ?_
  rintro e w1 ⟨rfl, hb⟩
  have st1 := st0.ext hb
  clear hb st0 hfit
  have z0 := st1.cell 1 rfl 0
  have z1 := st1.cell 1 rfl 1
  have z2 := st1.cell 1 rfl 2
  have z3 := st1.cell 1 rfl 3
  simp only [List.getElem?_toArray, List.getElem?_cons_zero, List.getElem?_cons_succ] at z0 z1 z2 z3
  go_wp2_with (go_at_call 23; refine JR.StopY.out ?_)
  refine ⟨?_⟩
  refine (hisr _).mono ?_
  rintro e w2 ⟨rfl, hb⟩
  have st2 := st1.ext hb
  clear hb st1 hisr z0 z1 z2 z3
  have z0 := st2.cell 0 rfl 0
  have z1 := st2.cell 0 rfl 1
  simp only [List.getElem?_toArray, List.getElem?_cons_zero, List.getElem?_cons_succ] at z0 z1
  go_wp2_with (go_at_call 16; refine JR.StopY.out ?_)
  refine ⟨?_⟩
  refine (hscp _ (hvg.below st2.hb) (hvh.below st2.hb)).mono ?_
  rintro e w3 ⟨rfl, hb⟩
  have st3 := st2.ext hb
  clear hb st2 hscp z0 z1
  go_wp2_with (go_at_call 17; refine JR.StopY.out ?_)
  refine ⟨?_⟩
  refine (hisc _ (hv.below st3.hb)).mono ?_
  rintro e w4 ⟨rfl, hb⟩
  have st4 := st3.ext hb
  clear hb st3 hisc
  have z0 := st4.cell 1 rfl 0
  have z1 := st4.cell 1 rfl 1
  have z2 := st4.cell 1 rfl 2
  have z3 := st4.cell 1 rfl 3
  simp only [List.getElem?_toArray, List.getElem?_cons_zero, List.getElem?_cons_succ] at z0 z1 z2 z3
  go_wp2_with (go_at_call 24; refine JR.StopY.out ?_)
  refine ⟨?_⟩
  refine (scRc_n a b c d _).mono ?_
  rintro e w5 ⟨v1, rfl, hs1, hb⟩
  have st5 := st4.ext hb
  clear hb st4 z0 z1 z2 z3
  obtain ⟨A1, k1, rfl, -⟩ := id hs1
  have st4 := st5.push (b := w5.heap.size) rfl #[.int .i64 1, .slice A1 2 k1, .slice none 0 0] 34
  have hs1 := hs1.below ((Below.refl w5.heap.size w5).alloc (Nat.le_refl _) (.cells #[.int .i64 1, .slice A1 2 k1, .slice none 0 0] 34))
  have hho1 := hho1 k1 A1
  have hho2 := hho2 k1 A1
  clear st5
  go_wp2_with (with_reducible refine stop_region ?_)
  refine ⟨?_⟩
  generalize w5.alloc _ = w6 at *
  generalize w5.heap.size = bs at *
  refine wp_region_K [] [.val (.agg #[.int .i64 1, .slice A1 2 k1, .slice none 0 0]), .val (.agg #[.slice Ag ng cg, .slice Ah nh ch]), .sPo l H, .val (.bool h1), .val (.agg #[.int .i64 a, .int .i64 b, .int .i64 c, .int .i64 d]), .val (.pointer (some ⟨w.heap.size + 1, 0, none⟩)), .val (.slice Ag ng cg), .val (.agg #[.int .i64 x0, .int .i64 x1, .int .i64 x2, .int .i64 x3]), .val (.bool h1), .val (.bool true), .val (.bool true), .val (.agg #[.int .i64 1, .slice A1 2 k1, .slice none 0 0]), .val (.slice A n cc), .sLn 2 m, .val (.bool h2), .val (.agg #[.int .i64 a, .int .i64 b, .int .i64 c, .int .i64 d]), .val (.slice A n cc), .val (.agg #[.int .i64 y0, .int .i64 y1, .int .i64 y2, .int .i64 y3]), .val (.bool h2), .val (.bool true), .val (.bool true), .val (.bool true), .val (.bool true), .val (.bool true), .val (.bool true)]
    [[.ini 7], [.ini 4], [.frm 1 37], [.frm 0 36, .frm 2 38], [.ini 3], [.ini 4], [.frm 5 41], [.frm 6 42], [.frm 4 40, .frm 7 43], [.frm 3 39, .frm 8 44], [.frm 9 45], [.frm 10 46, .ini 7], [.frm 10 46, .ini 2], [.frm 10 46, .frm 12 48], [.frm 10 46, .frm 11 47, .frm 13 49], [.frm 10 46, .ini 3], [.frm 10 46, .ini 2], [.frm 10 46, .frm 16 52], [.frm 10 46, .frm 15 51, .frm 17 53], [.frm 10 46, .frm 14 50, .frm 18 54], [.frm 10 46, .frm 19 55], [.frm 20 56], [.frm 21 57], [.frm 21 57, .frm 22 58], [.frm 23 59]]
    mixed (by kernel_rfl) (by kernel_rfl) (allPre_of ⟨trivial, trivial, trivial, trivial, trivial, trivial, trivial, trivial, trivial, trivial, trivial, trivial, trivial, trivial, trivial, trivial, trivial, trivial, trivial, trivial, trivial, trivial, trivial, trivial, trivial, trivial⟩)
    ⟨OpOk.quiet rfl ?_, OpOk.quiet rfl ?_, OpOk.call rfl ?_, OpOk.call rfl ?_, OpOk.quiet rfl ?_, OpOk.quiet rfl ?_, OpOk.quiet rfl ?_, OpOk.call rfl ?_, OpOk.call rfl ?_, OpOk.quiet rfl ?_, OpOk.quiet rfl ?_, qt rfl (by kernel_rfl) rfl ?_, qt rfl (by kernel_rfl) rfl ?_, OpOk.callG rfl (by kernel_rfl) (gd rfl) ?_, OpOk.callG rfl (by kernel_rfl) (gd rfl) ?_, qt rfl (by kernel_rfl) rfl ?_, qt rfl (by kernel_rfl) rfl ?_, OpOk.callG rfl (by kernel_rfl) (gd rfl) ?_, OpOk.callG rfl (by kernel_rfl) (gd rfl) ?_, qt rfl (by kernel_rfl) rfl ?_, OpOk.quiet rfl ?_, OpOk.quiet rfl ?_, OpOk.callG rfl (by kernel_rfl) (gd rfl) ?_, OpOk.quiet rfl ?_, OpOk.quiet rfl ?_, trivial⟩ ?_
  · intro a_ u hG hf
    simp [facts, Need.fact, Ent.val, Act.eval] at hf
    obtain ⟨y0, y1, y2⟩ := st4.k3 hG 0 rfl
    go_simp
  · intro a_ u hG hf
    simp [facts, Need.fact, Ent.val, Act.eval] at hf
    obtain ⟨y0, y1⟩ := st4.k2 hG 1 rfl
    go_simp
  · intro a_ u hG hf
    simp [facts, Need.fact, Ent.val, Act.eval] at hf
    have hb5 := st4.hb.trans (hG.below.mono st4.hb.size)
    refine ⟨_, _, by go_simp, (hpo u (hvg.below hb5) (hvh.below hb5)).mono ?_⟩
    rintro e w' ⟨v1, v2, rfl, g1, g2, hb⟩
    exact ⟨_, rfl, hb, v1, v2, rfl, g1, g2⟩
  · intro a_ u hG hf
    obtain ⟨⟨_, _, f1⟩, ⟨_, _, f2⟩, -⟩ := hf
    obtain ⟨v1, v2, f3, f4, f5⟩ := f2
    obtain ⟨A7, k7, e7, -⟩ := id f4.p
    obtain ⟨A8, k8, e8, -⟩ := id f5.h
    have f1' : a_.eval (.tmp 36) = .agg #[.int .i64 1, .slice A1 2 k1, .slice none 0 0] := f1
    simp [Act.eval] at f1' f3
    have hb5 := st4.hb.trans (hG.below.mono st4.hb.size)
    refine ⟨_, _, by go_simp, (hho1 u v1 v2 (hs1.below (hG.below)) f4.p f5.h).mono ?_⟩
    rintro e w' ⟨rfl, hb⟩
    exact ⟨_, rfl, hb, rfl⟩
  · intro a_ u hG hf
    simp [facts, Need.fact, Ent.val, Act.eval] at hf
    have s9 := st4.keep0 hG
    have y0 := s9.cell 2 rfl 0
    have y1 := s9.cell 2 rfl 1
    have y2 := s9.cell 2 rfl 2
    have y3 := s9.cell 2 rfl 3
    simp only [List.getElem?_toArray, List.getElem?_cons_zero, List.getElem?_cons_succ] at y0 y1 y2 y3
    go_simp
  · intro a_ u _ hf
    simp [facts, Need.fact, Ent.val, Act.eval] at hf
    go_simp
  · intro a_ u hG hf
    simp [facts, Need.fact, Ent.val, Act.eval] at hf
    obtain ⟨y0, y1⟩ := st4.k2 hG 1 rfl
    go_simp
  · intro a_ u hG hf
    simp [facts, Need.fact, Ent.val, Act.eval] at hf
    have hb5 := st4.hb.trans (hG.below.mono st4.hb.size)
    refine ⟨_, _, by go_simp, (hgr1 u (hvg.below hb5)).mono ?_⟩
    rintro e w' ⟨rfl, hb⟩
    exact ⟨_, rfl, hb, rfl⟩
  · intro a_ u hG hf
    simp [facts, Need.fact, Ent.val, Act.eval] at hf
    have hb5 := hG.below
    refine ⟨_, _, by go_simp, (hin1 u).mono ?_⟩
    rintro e w' ⟨rfl, hb⟩
    exact ⟨_, rfl, hb, rfl⟩
  · intro a_ u _ hf
    simp [facts, Need.fact, Ent.val, Act.eval] at hf
    go_simp
  · intro a_ u _ hf
    simp [facts, Need.fact, Ent.val, Act.eval] at hf
    go_simp
  · intro a_ u hG hf
    simp [facts, Need.fact, Ent.val, Act.eval] at hf
    obtain ⟨y0, y1, y2⟩ := st4.k3 hG 0 rfl
    go_simp
  · intro a_ u _ hf
    simp [facts, Need.fact, Ent.val, Act.eval] at hf
    go_simp
  · intro a_ u hG hf
    simp [facts, Need.fact, Ent.val, Act.eval] at hf
    have hb5 := st4.hb.trans (hG.below.mono st4.hb.size)
    refine ⟨_, _, by go_simp, (hln u (hv.below hb5)).mono ?_⟩
    rintro e w' ⟨v1, rfl, g1, hb⟩
    exact ⟨_, rfl, hb, v1, rfl, g1⟩
  · intro a_ u hG hf
    obtain ⟨-, ⟨_, _, f1⟩, ⟨_, _, f2⟩, -⟩ := hf
    obtain ⟨v1, f3, f4⟩ := f2
    have f1' : a_.eval (.tmp 47) = .agg #[.int .i64 1, .slice A1 2 k1, .slice none 0 0] := f1
    simp [Act.eval] at f1' f3
    have hb5 := st4.hb.trans (hG.below.mono st4.hb.size)
    refine ⟨_, _, by go_simp, (hho2 u v1 (hs1.below (hG.below)) f4.p).mono ?_⟩
    rintro e w' ⟨rfl, hb⟩
    exact ⟨_, rfl, hb, rfl⟩
  · intro a_ u hG hf
    simp [facts, Need.fact, Ent.val, Act.eval] at hf
    have s9 := st4.keep0 hG
    have y0 := s9.cell 2 rfl 0
    have y1 := s9.cell 2 rfl 1
    have y2 := s9.cell 2 rfl 2
    have y3 := s9.cell 2 rfl 3
    simp only [List.getElem?_toArray, List.getElem?_cons_zero, List.getElem?_cons_succ] at y0 y1 y2 y3
    go_simp
  · intro a_ u _ hf
    simp [facts, Need.fact, Ent.val, Act.eval] at hf
    go_simp
  · intro a_ u hG hf
    simp [facts, Need.fact, Ent.val, Act.eval] at hf
    have hb5 := st4.hb.trans (hG.below.mono st4.hb.size)
    refine ⟨_, _, by go_simp, (hgr2 u (hv.below hb5)).mono ?_⟩
    rintro e w' ⟨rfl, hb⟩
    exact ⟨_, rfl, hb, rfl⟩
  · intro a_ u hG hf
    simp [facts, Need.fact, Ent.val, Act.eval] at hf
    have hb5 := hG.below
    refine ⟨_, _, by go_simp, (hin2 u).mono ?_⟩
    rintro e w' ⟨rfl, hb⟩
    exact ⟨_, rfl, hb, rfl⟩
  · intro a_ u _ hf
    simp [facts, Need.fact, Ent.val, Act.eval] at hf
    go_simp
  · intro a_ u _ hf
    simp [facts, Need.fact, Ent.val, Act.eval] at hf
    go_simp
  · intro a_ u _ hf
    simp [facts, Need.fact, Ent.val, Act.eval] at hf
    go_simp
  · intro a_ u hG hf
    simp [facts, Need.fact, Ent.val, Act.eval] at hf
    have hb5 := hG.below
    refine ⟨_, _, by go_simp, (awk_c u).mono ?_⟩
    rintro e w' ⟨rfl, hb⟩
    exact ⟨_, rfl, hb, rfl⟩
  · intro a_ u _ hf
    simp [facts, Need.fact, Ent.val, Act.eval] at hf
    go_simp
  · intro a_ u _ hf
    simp [facts, Need.fact, Ent.val, Act.eval] at hf
    go_simp
  intro u lw hw w5 hKp hE hI hD
  simp only [allE, Ent.val] at hE
  obtain ⟨u0, u1, -, u3, u4, u5, u6, u7, u8, u9, u10, u11, u12, -, u14, u15, u16, u17, u18, u19, u20, u21, u22, u23, u24, -⟩ := hE
  simp only [Nat.reduceAdd] at u0 u1 u3 u4 u5 u6 u7 u8 u9 u10 u11 u12 u14 u15 u16 u17 u18 u19 u20 u21 u22 u23 u24
  simp only [allPut, Act.put, Nat.reduceAdd, u0, u1, u3, u4, u5, u6, u7, u8, u9, u10, u11, u12, u14, u15, u16, u17, u18, u19, u20, u21, u22, u23, u24]
  try simp only [List.setIfInBounds_toArray, List.set_cons_zero, List.set_cons_succ]
  clear hI hD u0 u1 u3 u4 u5 u6 u7 u8 u9 u10 u11 u12 u14 u15 u16 u17 u18 u19 u20 u21 u22 u23 u24
  generalize u 2 = y_2
  generalize u 13 = y_13
  have st6 := st4.keep0 hKp
  clear hKp st4
  go_wp2
  go_ret
  exact ⟨rfl, st6.hb⟩
end Go.Proofs.YtbeoijpdacpaaaaGreat
