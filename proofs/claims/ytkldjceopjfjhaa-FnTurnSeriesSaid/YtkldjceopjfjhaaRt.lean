import Derived.Test.YtkldjceopjfjhaaNu
set_option linter.unusedSimpArgs false
set_option linter.unusedVariables false
/-! The r-tree of few segments, as bytes. -/
namespace Go.Proofs.Ytkldjceopjfjhaa
open Go.RowKit PF JR
theorem asNode (v : Value) (w : World) : (Instr.typeAssert (.iface 133 v) 20 133 false).run Try.prog w = .ok v w := by kernel_rfl
theorem asInt (v : Value) (w : World) : (Instr.typeAssert (.iface 3 v) 20 3 false).run Try.prog w = .ok v w := by kernel_rfl
/-- the node in block N holds cnt rectangles; their data are small numbers -/
def NodV (w : World) (N cnt : Nat) (ks : List Nat) : Prop :=
  w.cell? ⟨N, 0, none⟩ = some (.int .i64 cnt) ∧ ks.length = cnt ∧ cnt ≤ 16 ∧ ∀ (i k : Nat), ks[i]? = some k → k ≤ 255 ∧ w.cell? ⟨N, 1 + i * 5, none⟩ = some (.iface 3 (.int .i64 k))
theorem NodV.below {w w' : World} {N cnt B : Nat} {ks : List Nat} (h : NodV w N cnt ks) (hN : N < B) (hb : Below B w w') : NodV w' N cnt ks := by
  obtain ⟨h1, h2, h3, h4⟩ := h
  have e : ∀ o, w'.cell? ⟨N, o, none⟩ = w.cell? ⟨N, o, none⟩ := fun o => World.cell?_of_block (hb.block N hN)
  exact ⟨(e _).trans h1, h2, h3, fun i k hi => ⟨(h4 i k hi).1, (e _).trans (h4 i k hi).2⟩⟩

theorem Byt.alloc {w : World} {base n : Nat} {v : Value} (h : Byt w base v n) (o : Obj) : Byt (w.alloc o) base v n := by
  obtain ⟨xs, h, h1⟩ := h
  exact ⟨xs, h.alloc o, h1⟩

theorem wpList_byt {ops : Array Oper} {rest : List Oper} {o : Oper} {a : Act} {Q : Exit → Act → World → Prop} (hgd : o.guard = none) (s x : Operand) (ho : o.op = .call { callee := .builtin .append, args := #[s, x], argTypes := #[111, 111] })
    (base n : Nat) (v : Value) (w0 w : World) (hs : a.eval s = v) (hv : Byt w base v n) (hB : Below base w0 w) (hbs : base ≤ w0.heap.size) (cs : Array Value) (T : TypeId) (m : Nat) (hm : cs.size = m)
    (hx : a.eval x = .slice (some ⟨w.heap.size, 0, none⟩) m m) (h1 : ∀ u ∈ cs.toList, u.oneCell' = true) (hn : n + m ≤ 1000000)
    (h : ∀ v' w', Byt w' base v' (n + m) → Below base w0 w' → wpList Try.prog ops Q rest (a.put o.dst v') w') : wpList Try.prog ops Q (o :: rest) a (w.alloc (.cells cs T)) := by
  have hlo : ∀ g, v.ownBlock = some g → base ≤ g := fun g hg => by obtain ⟨xs, h, -⟩ := hv; exact (h.lt g hg).1
  obtain ⟨xs, hown, hone⟩ := hv
  obtain ⟨i0, hi, hz0, hz1, hz2⟩ := info_parts infoBy
  have hsz := hB.size
  refine wpList_append_own _ hgd s x 111 ho base 5 i0 (.int .u8 0) 1 1 Try.underlying111 hi hz0 hz1 hz2 rfl (by decide) _ _ _ hs (hown.alloc _) ⟨w.heap.size, 0, none⟩ m m cs.toList hx (by simp [hm]) (row_cells (heap_alloc_new w _)) h1 (by unfold maxLen; omega) (by omega) (by simp; omega) ?_
  intro v' w3 hown' hgrow _
  exact h v' w3 ⟨_, hown', one_app hone h1⟩ (row_below (hB.alloc (by omega) _) hgrow hlo (by simp; omega))

set_option maxRecDepth 100000 in
set_option maxHeartbeats 4000000 in
theorem rcompress_c (N cnt R o : Nat) (ks : List Nat) (x0 x1 x2 x3 n base : Nat) (v : Value) (w : World) (hN : NodV w N cnt ks) (hNb : N < base) (hRb : R < base)
    (r0 : w.cell? ⟨R, o, none⟩ = some (.iface 133 (.pointer (some ⟨N, 0, none⟩)))) (r1 : w.cell? ⟨R, o + 1, none⟩ = some (fl x0)) (r2 : w.cell? ⟨R, o + 1 + 1, none⟩ = some (fl x1)) (r3 : w.cell? ⟨R, o + 3, none⟩ = some (fl x2)) (r4 : w.cell? ⟨R, o + 3 + 1, none⟩ = some (fl x3))
    (hv : Byt w base v n) (hn : n ≤ 1000) (hbs : base ≤ w.heap.size) :
    Calls Try.prog 59 #[.pointer (some ⟨R, o, none⟩), v, .int .i64 0] w fun e w' => ∃ v' n', e = .returned v' ∧ Byt w' base v' n' ∧ n' ≤ n + 100 ∧ n ≤ n' ∧ Below base w w' := by
  have ha := asNode
  have hN0 := hN
  have er : JR.StopN (∀ u, Below base w u → ∀ k, u.cell? ⟨R, k, none⟩ = w.cell? ⟨R, k, none⟩) := ⟨fun u hu k => World.cell?_of_block (hu.block R hRb)⟩
  go_enter Try.func59, Try.ntmps59
  go_wp2_with (go_at_call 68; refine JR.StopN.out ?_)
  refine ⟨?_⟩
  refine (appendFloat_c _ n base v w hv (by omega) hbs).mono ?_
  rintro e w1 ⟨v1, rfl, hv1, hb1⟩
  have q2 : w1.cell? ⟨R, o + 2, none⟩ = some (fl x1) := (er.out w1 hb1 _).trans r2
  have q2' : w1.cell? ⟨R, o + 1 + 1, none⟩ = some (fl x1) := q2
  clear r1 r2 hv
  go_wp2_with (go_at_call 68; refine JR.StopN.out ?_)
  refine ⟨?_⟩
  refine (appendFloat_c _ (n + 8) base v1 w1 hv1 (by omega) (Nat.le_trans hbs hb1.size)).mono ?_
  rintro e w2 ⟨v2, rfl, hv2, hb2⟩
  have hB2 := hb1.trans hb2
  have q3 := (er.out w2 hB2 _).trans r3
  clear q2 q2' hb1 hb2 hv1 r3
  go_wp2_with (go_at_call 68; refine JR.StopN.out ?_)
  refine ⟨?_⟩
  refine (appendFloat_c _ (n + 8 + 8) base v2 w2 hv2 (by omega) (Nat.le_trans hbs hB2.size)).mono ?_
  rintro e w3 ⟨v3, rfl, hv3, hb3⟩
  have hB3 := hB2.trans hb3
  have q4 : w3.cell? ⟨R, o + 4, none⟩ = some (fl x3) := (er.out w3 hB3 _).trans r4
  have q4' : w3.cell? ⟨R, o + 3 + 1, none⟩ = some (fl x3) := q4
  clear q3 hB2 hb3 hv2 r4
  go_wp2_with (go_at_call 68; refine JR.StopN.out ?_)
  refine ⟨?_⟩
  refine (appendFloat_c _ (n + 8 + 8 + 8) base v3 w3 hv3 (by omega) (Nat.le_trans hbs hB3.size)).mono ?_
  rintro e w4 ⟨v4, rfl, hv4, hb4⟩
  have hB4 := hB3.trans hb4
  clear q4 q4' hB3 hb4 hv3 er r0
  obtain ⟨k0, k1, k2, k3⟩ := hN.below hNb hB4
  clear hN
  go_wp2_with (at_builtin; refine wpList_byt rfl _ _ rfl base _ v4 w w4 rfl hv4 hB4 hbs _ _ 1 rfl rfl ?c1 ?c2 ?_)
  case c1 => first | rfl | (intro u hu; simp at hu; subst hu; rfl)
  case c2 => omega
  intro v5 w5 hv5 hB5
  have hN5 : NodV w5 N cnt ks := hN0.below hNb hB5
  clear k0 k3 hv4 hB4
  obtain ⟨k0, -, -, k3⟩ := hN5
  have hi := asInt
  have hnb := numBytes_c
  go_wp2
  go_loopw [8, 9] (fun b i wr => b = .int .u8 1 ∧ ∃ k : Nat, k ≤ cnt ∧ i = .int .i64 k ∧ wr = w5) (fun _ i _ => cnt - (intOf i).toNat)
  case atStart => exact ⟨rfl, 0, Nat.zero_le _, rfl, rfl⟩
  case round =>
    obtain ⟨rfl, k, hk, rfl, rfl⟩ := hrel
    rcases Nat.lt_or_ge k cnt with hlt | hge
    · obtain ⟨m, hm⟩ : ∃ m, ks[k]? = some m := ⟨ks[k]'(by omega), by simp [k1, hlt]⟩
      obtain ⟨hm2, g1⟩ := k3 k m hm
      have hc := hnb m hm2 wr
      clear k3
      go_wp2_with (go_at_call 62; refine JR.StopN.out ?_)
      refine ⟨?_⟩
      refine hc.mono ?_
      rintro e w6 ⟨rfl, rfl⟩
      go_wp2
      go_roundw
      case rel => exact ⟨rfl, k + 1, by omega, by go_num, trivial⟩
      case measure => simp [intOf]; omega
    · have : k = cnt := by omega
      subst this
      go_wp2_with (at_builtin; refine wpList_byt rfl _ _ rfl base _ v5 w wr rfl hv5 hB5 hbs _ _ 1 rfl rfl ?c1 ?c2 ?_)
      case c1 => first | rfl | (intro u hu; simp at hu; subst hu; rfl)
      case c2 => omega
      intro v6 w6 hv6 hB6
      have hN6 : NodV w6 N k ks := hN0.below hNb hB6
      clear k0 k3 hv5 hB5
      go_wp2
      go_loopw [1, 11] (fun b i wr => ∃ j : Nat, j ≤ k ∧ i = .int .i64 j ∧ Byt wr base b (n + 34 + j) ∧ Below base w wr) (fun _ i _ => k - (intOf i).toNat)
      case atStart => exact ⟨0, Nat.zero_le _, rfl, hv6, hB6⟩
      case round =>
        clear hv6 hB6 hN6
        obtain ⟨j, hj, rfl, hv7, hB7⟩ := hrel
        obtain ⟨k0, -, -, k3⟩ := hN0.below hNb hB7
        have han := appendNum_c
        rcases Nat.lt_or_ge j k with hlt | hge
        · obtain ⟨m, hm⟩ : ∃ m, ks[j]? = some m := ⟨ks[j]'(by omega), by simp [k1, hlt]⟩
          obtain ⟨hm2, g1⟩ := k3 j m hm
          clear k3
          go_wp2_with (go_at_call 63; refine JR.StopN.out ?_)
          refine ⟨?_⟩
          refine (appendNum_c _ _ base hm2 _ _ hv7 (by omega) (Nat.le_trans hbs hB7.size)).mono ?_
          rintro e w8 ⟨v8, rfl, hv8, hb8⟩
          have hB8 := hB7.trans hb8
          go_wp2
          go_roundw
          case rel => exact ⟨j + 1, by omega, by go_num, hv8, hB8⟩
          case measure => simp [intOf]; omega
        · have : j = k := by omega
          subst this
          go_wp2
          go_ret
          exact ⟨_, _, rfl, hv7, by omega, by omega, hB7⟩
end Go.Proofs.Ytkldjceopjfjhaa
