import Derived.Test.YtbfanhdofopnnaaGreatQC
import Derived.Test.YtbfanhdofopnnaaGreatWi
import Derived.Test.YtbfanhdofopnnaaGreatQY
import Derived.Test.YtbfanhdofopnnaaGreatQH
import Derived.Test.YtbfanhdofopnnaaGreatAwake
import Derived.Test.YtbfanhdofopnnaaGreatQM
set_option linter.unusedSimpArgs false
set_option linter.unusedVariables false
/-! FnClosedAlike: the walk (printed by gen/wl.py). -/
namespace JR
open Go Go.RowKit
theorem OpOk.slcG {P : Program} {ops : Array Oper} {Q : Exit → Act → World → Prop} {G : World → Prop} {B0 : Nat} {plan : List Ent} {a0 : Act} {i : Nat} {o : Oper} {ns : List Need} {T : TypeId} {cs : Array Value} {j t : Nat} {b : Bool} (hg : o.guard = some (j, b)) (hd : (ops[j]?).bind (·.dst) = some t) (hv : ∀ a w, facts plan a0 a w ns → a.eval (.tmp t) = .bool b)
  (h : ∀ a w, G w → facts plan a0 a w ns → (execOp a.eval o).run P w = .ok (.value (.slice (some ⟨w.heap.size, 0, none⟩) 1 1)) (w.alloc (.cells cs T))) :
  OpOk P ops Q G B0 plan a0 i o (.slc T cs) ns := by
 intro a w hG hf
 refine ⟨fun _ => ?_, fun h => by rw [wanted_of hg hd (hv a w hf)] at h; cases h⟩
 unfold Oper.wp
 rw [h a w hG hf]
 exact ⟨_, rfl, ⟨w.heap.size, rfl, Nat.le_refl _, by simp, alloc_get _ _⟩, .inl (Ext.alloc _ _)⟩
section
variable {P : Program} {ops : Array Oper} {Q : Exit → Act → World → Prop} {G : World → Prop} {B0 : Nat} {plan : List Ent} {a0 : Act} {i : Nat} {o : Oper} {ns : List Need}
theorem gd {k t : Nat} {b : Bool} (hp : plan.getD k .any = .val (.bool b)) (a : Act) (w : World) (hf : facts plan a0 a w (.frm k t :: ns)) : a.eval (.tmp t) = .bool b := by
 obtain ⟨⟨_, _, h⟩, -⟩ := hf
 rw [hp] at h
 exact h
theorem sk {k t : Nat} {b : Bool} (hg : o.guard = some (k, b)) (hd : (ops[k]?).bind (·.dst) = some t) (hp : plan.getD k .any = .val (.bool (!b))) : OpOk P ops Q G B0 plan a0 i o (.val undef) (.frm k t :: ns) :=
 OpOk.skipG hg hd (gd hp)
theorem qt {x : Value} {k t : Nat} {b : Bool} (hg : o.guard = some (k, b)) (hd : (ops[k]?).bind (·.dst) = some t) (hp : plan.getD k .any = .val (.bool b))
  (h : ∀ a w, G w → facts plan a0 a w (.frm k t :: ns) → (execOp a.eval o).run P w = .ok (.value x) w) : OpOk P ops Q G B0 plan a0 i o (.val x) (.frm k t :: ns) :=
 OpOk.quietG hg hd (gd hp) h
end
end JR
namespace Go.Proofs.YtbfanhdofopnnaaGreat
open Go.RowKit PF JR
theorem _root_.PF.Blk.c3 {w u : World} {L : List (Nat × Array Value × TypeId)} (h : Blk w u L) (i : Nat) {b : Nat} {x y z : Value} {T : TypeId} (hi : L[i]? = some (b, #[x, y, z], T)) : u.cell? ⟨b, 0, none⟩ = some x ∧ u.cell? ⟨b, 1, none⟩ = some y ∧ u.cell? ⟨b, 2, none⟩ = some z :=
 ⟨h.cell i hi 0, h.cell i hi 1, h.cell i hi 2⟩
theorem _root_.PF.Blk.k3 {w u u' : World} {L : List (Nat × Array Value × TypeId)} (h : Blk w u L) (hG : Keep [] u u') (i : Nat) {b : Nat} {x y z : Value} {T : TypeId} (hi : L[i]? = some (b, #[x, y, z], T)) : u'.cell? ⟨b, 0, none⟩ = some x ∧ u'.cell? ⟨b, 1, none⟩ = some y ∧ u'.cell? ⟨b, 2, none⟩ = some z :=
 (h.keep hG (fun i x _ => by simp) (fun x hx => by simp at hx)).c3 i hi
theorem _root_.PF.Blk.k2 {w u u' : World} {L : List (Nat × Array Value × TypeId)} (h : Blk w u L) (hG : Keep [] u u') (i : Nat) {b : Nat} {x y : Value} {T : TypeId} (hi : L[i]? = some (b, #[x, y], T)) : u'.cell? ⟨b, 0, none⟩ = some x ∧ u'.cell? ⟨b, 1, none⟩ = some y :=
 have h' := h.keep hG (fun i x _ => by simp) (fun x hx => by simp at hx)
 ⟨h'.cell i hi 0, h'.cell i hi 1⟩
theorem ex_bool (P : Prop) : ∃ b : Bool, (b = true ↔ P) := by
 by_cases h : P
 ·exact ⟨true, fun _ => h, fun _ => rfl⟩
 ·exact ⟨false, fun h => (nomatch h), fun h' => absurd h' h⟩
theorem isvX_as {K : Int} {l : List (Int × Int)} {H : List (List (Int × Int))} {b : Bool} (h : b = true ↔ VaryS K l H) {w w' : World} {e : Ending} : IsvX K l H w e w' → e = .returned (.bool b) ∧ Below w.heap.size w w' := by
 rintro ⟨b', rfl, h', hb⟩
 have : b' = b := by
  cases b <;> cases b' <;> simp_all
 subst this
 exact ⟨rfl, hb⟩
theorem slP_blk {w : World} {b : Nat} {T : TypeId} {p : Int × Int} (h : w.heap[b]? = some (.cells #[.int .i64 p.1, .int .i64 p.2] T (0, 0))) : SlP w (.slice (some ⟨b, 0, none⟩) 1 1) [p] := by
 have c0 := cellAt h 0
 have c1 := cellAt h 1
 simp only [List.getElem?_toArray, List.getElem?_cons_zero, List.getElem?_cons_succ] at c0 c1
 refine ⟨_, 1, rfl, fun k q hq => ?_⟩
 rcases k with _ | k
 ·simp at hq
  subst hq
  exact ⟨_, 0, rfl, by simpa using c0, by simpa using c1⟩
 ·simp at hq
theorem slH_noneC {w : World} : SlH w (.slice none 0 0) [] := ⟨none, 0, rfl, fun k p hp => by simp at hp⟩
theorem ask_holeC {X : Nat} (hX : X ≤ 2) {l : List (Int × Int)} {H : List (List (Int × Int))} (h : ShOk 3 l H) {p : Int × Int} (hp : Bn3 p) (v vh vp vq : Value) (w : World) (hv : SlP w v l) (hh : SlH w vh H) (hvp : SlP w vp [p]) (hvq : SlH w vq []) :
  Calls Tryz.prog 22 #[.agg #[.int .i64 3, v, vh], .agg #[.int .i64 0, vp, vq], .int .i64 X, .int .i64 2] w fun e w' => e = .returned (.tuple #[.bool (polHas l H p), .bool (polHas l H p)]) ∧ Below w.heap.size w w' := by
 obtain ⟨h1, h2, h3, hk⟩ := h
 have hl : 3 ≤ l.length ∧ l.length ≤ 12 := by
  rcases hk with ⟨h, -⟩ | ⟨h, -⟩ | ⟨h, -⟩ | ⟨-, h⟩
  ·cases h
  ·cases h
  ·cases h
  ·exact h
 have okl : okRn l := ⟨hl.1, hl.2, h1⟩
 refine askPtH_c X hX l H okl.k (fun x hx => (h3 x hx).k) (by omega) p hp.b (fun x hx k _ => ?_) v vh vp vq w hv hh hvp hvq
 refine ray_q3 (fun q hq => ?_) hp k
 rcases hx with rfl | hx
 ·exact h1 q hq
 ·exact (h3 x hx).2.2 q hq
theorem eqP2C (a b : Int) (d : Nat) (u : World) : (Op.equalIn (d + 2) 42 (.agg #[.int .i64 a, .int .i64 b]) (.agg #[.int .i64 a, .int .i64 b])).run Tryz.prog u = .ok true u := by
 have h25 : Tryz.prog.underlying 42 = some (.struct #[_, _]) := Tryz.underlying42
 have h2 : Tryz.prog.underlying 2 = some (.int .i64) := Tryz.underlying2
 unfold Op.equalIn
 simp [run_underlying h25, go_sem]
theorem eqArr2C (a b c d : Int) (u : World) : (Op.equalIn 10000 49 (.agg #[.int .i64 a, .int .i64 b, .int .i64 c, .int .i64 d]) (.agg #[.int .i64 a, .int .i64 b, .int .i64 c, .int .i64 d])).run Tryz.prog u = .ok true u := by
 have h26 : Tryz.prog.underlying 49 = some (.array 2 42) := Tryz.underlying49
 have e1 := fun u => eqP2C a b 9997 u
 have e2 := fun u => eqP2C c d 9997 u
 rw [show (10000 : Nat) = 9999 + 1 from rfl]
 unfold Op.equalIn
 simp only [Nat.reduceAdd] at e1 e2
 simp [run_underlying h26, go_sem, e1, e2, show List.range' 0 2 = [0, 1] from rfl]
/-- the cells of a series' answer of which the number of segments and the rectangle are known -/
def SaC (ns : Int) (b : Int × Int × Int × Int) (cs : Array Value) : Prop :=
 ∃ (n : Int) (A : Option Addr) (l c : Nat) (B : Option Addr) (m d : Nat) (c1 c2 c3 c4 c5 : Bool), cs = #[.int .i64 n, .int .i64 ns, .slice A l c, .slice B m d, .int .i64 b.1, .int .i64 b.2.1, .int .i64 b.2.2.1, .int .i64 b.2.2.2, .bool c1, .bool c2, .bool c3, .bool c4, .bool c5]
/-- what the operations of the fourth region ask for -/
def needs4 : List (List Need) := [[.ini 4], [.frm 0 30], [.frm 1 31], [.frm 2 32], [.frm 3 33, .ini 4], [.frm 3 33, .frm 4 34], [.frm 3 33, .frm 5 35], [.frm 3 33, .frm 6 36], [.frm 7 37], [.frm 8 38, .ini 9], [.frm 8 38, .frm 9 39], [.frm 8 38, .frm 10 40], [.frm 11 41], [.frm 12 42, .ini 5], [.frm 12 42, .frm 13 43], [.frm 12 42, .frm 14 44], [.frm 12 42, .frm 15 45], [.frm 16 46], [.frm 17 47, .ini 4], [.frm 17 47, .frm 18 48], [.frm 17 47, .frm 19 49], [.frm 17 47, .frm 20 50], [.frm 17 47, .ini 4], [.frm 17 47, .frm 22 52], [.frm 17 47, .ini 9], [.frm 17 47, .frm 24 54], [.frm 17 47, .frm 23 53, .frm 25 55], [.frm 17 47, .frm 26 56], [.frm 17 47, .frm 21 51, .frm 27 57], [.frm 17 47, .frm 28 58], [.frm 29 59], [.frm 30 60, .ini 6], [.frm 30 60, .frm 31 61], [.frm 30 60, .frm 32 62], [.frm 30 60, .frm 33 63], [.frm 30 60, .frm 34 64]]
/-- the cells of a struct -/
def aggU (v : Value) : Array Value := match v with | .agg cs => cs | _ => #[]
theorem soP_as {l : List (Int × Int)} {ns : Int} {b : Int × Int × Int × Int} {w w' : World} {e : Ending} (h1 : Int.ofNat (nSeg true l) = ns) (h2 : box l = b) : SoP true l w e w' → ∃ v, e = .returned v ∧ Below w.heap.size w w' ∧ ∃ cs, v = .agg cs ∧ SaC ns b cs := by
 rintro ⟨A, c, B, m, d, bv, bi, rfl, -, hb⟩
 subst h1 h2
 exact ⟨_, rfl, hb, _, rfl, _, A, _, c, B, m, d, _, _, _, _, _, rfl⟩
/-- a slice as it is -/
def slU (v : Value) : Value := match v with | .slice a n c => .slice a n c | _ => .slice none 0 0
theorem slU_one (v : Value) : (slU v).oneCell' = true := by unfold slU; split <;> rfl
theorem row_slice {w : World} {base size n : Nat} {T : TypeId} {v : Value} {xs : List Value} (h : w.ownsRow base T size v n xs) (hne : v.ownBlock ≠ none) : ∃ A c, v = .slice A n c := by
 rcases h.2 with ⟨rfl, h0⟩ | ⟨g, cap, cur, rfl, -⟩
 ·exact absurd rfl hne
 ·exact ⟨_, _, rfl⟩
theorem slP_cells {u : World} {bl ol c : Nat} {l : List (Int × Int)} (h : SlP u (.slice (some ⟨bl, ol, none⟩) l.length c) l) (j : Nat) (z : Value) (hz : (cellsP l)[j]? = some z) : u.cell? ((⟨bl, ol, none⟩ : Addr).add j) = some z := by
 obtain ⟨A, c', e, hk⟩ := h
 cases e
 have hj : j < l.length * 2 := by
  have := (List.getElem?_eq_some_iff.1 hz).1
  rwa [cellsP_len] at this
 have hkl : j / 2 < l.length := by omega
 obtain ⟨b, o, e, h1, h2⟩ := hk (j / 2) _ (at_get hkl)
 cases e
 obtain ⟨g1, g2⟩ := cellsP_get l (j / 2) _ (at_get hkl)
 have e : (⟨bl, ol, none⟩ : Addr).add j = ⟨bl, ol + j, none⟩ := by unfold Addr.add; split <;> simp_all
 rw [e]
 rcases Nat.mod_two_eq_zero_or_one j with hm | hm
 ·rw [show j / 2 * 2 = j from by omega] at g1 h1
  rw [h1, ← g1, hz]
 ·rw [show j / 2 * 2 + 1 = j from by omega] at g2
  rw [show ol + j / 2 * 2 + 1 = ol + j from by omega] at h2
  rw [h2, ← g2, hz]
theorem cellsP_cls (l : List (Int × Int)) : cellsP (cls l) = cellsP l ++ [.int .i64 (at' l 0).1, .int .i64 (at' l 0).2] := by
 unfold cls
 induction l with
 | nil => rfl
 | cons x l ih =>
  have h : ∀ q : Int × Int, cellsP (l ++ [q]) = cellsP l ++ [.int .i64 q.1, .int .i64 q.2] := fun q => by
   clear ih
   induction l with
   | nil => rfl
   | cons y l ih => simp [cellsP, ih]
  simp [cellsP, h]
set_option maxRecDepth 100000 in
set_option maxHeartbeats 40000000 in
theorem closedAlike_c (K : Int) (l : List (Int × Int)) (H : List (List (Int × Int))) (J : Int) (m : List (Int × Int)) (G : List (List (Int × Int))) (p : Int × Int)
  (hl0 : l.length ≤ 9223372036854775807) (hH0 : H.length ≤ 9223372036854775807) (hl1 : ∀ h ∈ H, h.length ≤ 9223372036854775807) (hm0 : m.length ≤ 9223372036854775807) (hG0 : G.length ≤ 9223372036854775807) (hm1 : ∀ h ∈ G, h.length ≤ 9223372036854775807)
  (XK : Nat) (hXK : XK ≤ 255) (va vha vb vhb : Value) (w : World) (hva : SlP w va l) (hvha : SlH w vha H) (hvb : SlP w vb m) (hvhb : SlH w vhb G) :
  Calls Tryz.prog 6 #[.agg #[.int .i64 K, va, vha], .agg #[.int .i64 J, vb, vhb], .agg #[.int .i64 p.1, .int .i64 p.2], .int .u8 XK] w fun e w' => e = .returned (.bool true) ∧ Below w.heap.size w w' := by
 have st0 := (((Blk.nil w).push rfl #[.int .i64 K, va, vha] 27).push (b := w.heap.size + 1) (by simp) #[.int .i64 J, vb, vhb] 27).push (b := w.heap.size + 1 + 1) (by simp) #[.int .i64 p.1, .int .i64 p.2] 42
 have a0 := hva.below st0.hb
 have ah0 := hvha.below st0.hb
 have b0 := hvb.below st0.hb
 have bh0 := hvhb.below st0.hb
 obtain ⟨c0, c1, c2⟩ := st0.c3 2 rfl
 go_enter Tryz.func6, Tryz.ntmps6
 go_wp2_with (go_at_call 11; refine JR.StopM.out ?_)
 refine ⟨?_⟩
 refine (fits7_c K l H hl0 hH0 hl1 va vha _ a0 ah0).mono ?_
 rintro e w1 ⟨rfl, hb⟩
 have st1 := st0.ext hb
 have a1 := a0.below hb
 have ah1 := ah0.below hb
 have b1 := b0.below hb
 have bh1 := bh0.below hb
 clear hb st0 a0 ah0 b0 bh0 c0 c1 c2
 generalize hfit : (decide (l.length ≤ 2147483647) && (decide (H.length ≤ 2147483647) && H.all fun h => decide (h.length ≤ 2147483647))) = fit
 cases fit with
 | false =>
  clear hfit
  go_wp2
  go_ret
  exact ⟨rfl, st1.hb⟩
 | true =>
  simp only [Bool.and_eq_true, decide_eq_true_eq, List.all_eq_true] at hfit
  obtain ⟨l1, l2, l3⟩ := hfit
  obtain ⟨c0, c1, c2⟩ := st1.c3 1 rfl
  go_wp2_with (go_at_call 11; refine JR.StopM.out ?_)
  refine ⟨?_⟩
  refine (fits7_c J m G hm0 hG0 hm1 vb vhb _ b1 bh1).mono ?_
  rintro e w2 ⟨rfl, hb⟩
  have st2 := st1.ext hb
  have a2 := a1.below hb
  have ah2 := ah1.below hb
  have b2 := b1.below hb
  have bh2 := bh1.below hb
  clear hb st1 a1 ah1 b1 bh1 c0 c1 c2
  generalize hfit : (decide (m.length ≤ 2147483647) && (decide (G.length ≤ 2147483647) && G.all fun h => decide (h.length ≤ 2147483647))) = fit
  cases fit with
  | false =>
   clear hfit
   go_wp2
   go_ret
   exact ⟨rfl, st2.hb⟩
  | true =>
   simp only [Bool.and_eq_true, decide_eq_true_eq, List.all_eq_true] at hfit
   obtain ⟨m1, m2, m3⟩ := hfit
   obtain ⟨Av, cv, rfl⟩ : ∃ A c, va = .slice A l.length c := a2.len
   obtain ⟨bA, hbA⟩ := ex_bool (VaryS K l H)
   obtain ⟨bB, hbB⟩ := ex_bool (VaryS J m G)
   have isA := fun u h1 h2 => (isVaryX_c K l H l1 (fun h hh => l3 h hh) (.slice Av l.length cv) vha u h1 h2).mono (fun e w' hx => isvX_as hbA hx)
   have isB := fun u h1 h2 => (isVaryX_c J m G m1 (fun h hh => m3 h hh) vb vhb u h1 h2).mono (fun e w' hx => isvX_as hbB hx)
   have vpc := fun u v h => varyPoints_c [p] 1 1 (by simp) v u h
   generalize hvq : decide ((1 : Int) ≤ [p].length ∧ ([p].length : Int) ≤ 1 ∧ [p].all okP = true) = vq at vpc
   clear hl0 hH0 hl1 hm0 hG0 hm1 m1 m2 m3 l2 l3 hva hvha hvb hvhb
   obtain ⟨c0, c1, c2⟩ := st2.c3 2 rfl
   go_wp2
   clear c0 c1 c2
   cases bA with
   | false =>
    clear hbA hbB hvq
    refine wp_region_K [] [.val (.agg #[.int .i64 K, .slice Av l.length cv, vha]), .val (.bool false), .val (.bool true), .val (.bool true), .val (undef), .val (undef), .val (undef), .val (.bool true), .val (.bool true), .val (undef), .val (undef), .val (.bool true), .val (.bool true), .val (undef), .val (undef), .val (undef), .val (.bool true), .val (.bool true), .val (undef), .val (undef), .val (undef), .val (undef), .val (undef), .val (undef), .val (undef), .val (undef), .val (undef), .val (undef), .val (undef), .val (.bool true), .val (.bool true), .val (undef), .val (undef), .val (undef), .val (undef), .val (.bool true)] needs4
     mixed (by kernel_rfl) (by kernel_rfl) (allPre_of ⟨trivial, trivial, trivial, trivial, trivial, trivial, trivial, trivial, trivial, trivial, trivial, trivial, trivial, trivial, trivial, trivial, trivial, trivial, trivial, trivial, trivial, trivial, trivial, trivial, trivial, trivial, trivial, trivial, trivial, trivial, trivial, trivial, trivial, trivial, trivial, trivial, trivial⟩)
     ⟨OpOk.quiet rfl ?_, OpOk.call rfl ?_, OpOk.quiet rfl ?_, OpOk.quiet rfl ?_, sk rfl (by kernel_rfl) rfl, sk rfl (by kernel_rfl) rfl, sk rfl (by kernel_rfl) rfl, OpOk.quiet rfl ?_, OpOk.quiet rfl ?_, sk rfl (by kernel_rfl) rfl, sk rfl (by kernel_rfl) rfl, OpOk.quiet rfl ?_, OpOk.quiet rfl ?_, sk rfl (by kernel_rfl) rfl, sk rfl (by kernel_rfl) rfl, sk rfl (by kernel_rfl) rfl, OpOk.quiet rfl ?_, OpOk.quiet rfl ?_, sk rfl (by kernel_rfl) rfl, sk rfl (by kernel_rfl) rfl, sk rfl (by kernel_rfl) rfl, sk rfl (by kernel_rfl) rfl, sk rfl (by kernel_rfl) rfl, sk rfl (by kernel_rfl) rfl, sk rfl (by kernel_rfl) rfl, sk rfl (by kernel_rfl) rfl, sk rfl (by kernel_rfl) rfl, sk rfl (by kernel_rfl) rfl, sk rfl (by kernel_rfl) rfl, OpOk.quiet rfl ?_, OpOk.quiet rfl ?_, sk rfl (by kernel_rfl) rfl, sk rfl (by kernel_rfl) rfl, sk rfl (by kernel_rfl) rfl, sk rfl (by kernel_rfl) rfl, OpOk.quiet rfl ?_, trivial⟩ ?_
    ·intro a u hG hf
     simp [facts, Need.fact, Ent.val, Act.eval] at hf
     obtain ⟨y0, y1, y2⟩ := st2.k3 hG 2 rfl
     go_simp
    ·intro a u hG hf
     simp [facts, Need.fact, Ent.val, Act.eval] at hf
     have hb5 := hG.below
     refine ⟨_, _, by go_simp, (isA u (a2.below hb5) (ah2.below hb5)).mono ?_⟩
     rintro e w' ⟨rfl, hb⟩
     exact ⟨_, rfl, hb, rfl⟩
    iterate 11
     ·intro a u _ hf
      simp [facts, Need.fact, Ent.val, Act.eval] at hf
      go_simp
    intro u lw hw w3 hKp hE hI hD
    simp only [allE, Ent.val] at hE
    obtain ⟨u0, u1, u2, u3, u4, u5, u6, u7, u8, u9, u10, u11, u12, u13, u14, u15, u16, u17, u18, u19, u20, u21, u22, u23, u24, u25, u26, u27, u28, u29, u30, u31, u32, u33, u34, u35, -⟩ := hE
    simp only [Nat.reduceAdd] at u0 u1 u2 u3 u4 u5 u6 u7 u8 u9 u10 u11 u12 u13 u14 u15 u16 u17 u18 u19 u20 u21 u22 u23 u24 u25 u26 u27 u28 u29 u30 u31 u32 u33 u34 u35
    simp only [allPut, Act.put, Nat.reduceAdd, u0, u1, u2, u3, u4, u5, u6, u7, u8, u9, u10, u11, u12, u13, u14, u15, u16, u17, u18, u19, u20, u21, u22, u23, u24, u25, u26, u27, u28, u29, u30, u31, u32, u33, u34, u35]
    try simp only [List.setIfInBounds_toArray, List.set_cons_zero, List.set_cons_succ]
    clear hI hD u0 u1 u2 u3 u4 u5 u6 u7 u8 u9 u10 u11 u12 u13 u14 u15 u16 u17 u18 u19 u20 u21 u22 u23 u24 u25 u26 u27 u28 u29 u30 u31 u32 u33 u34 u35
    have hb := hKp.below
    have st3 := st2.keep hKp (fun i x _ => by simp) (fun x hx => by simp at hx)
    clear hKp hb st2 a2 ah2 b2 bh2 isA isB vpc u lw hw
    go_wp2_with (go_at_call 14; refine JR.StopM.out ?_)
    refine ⟨?_⟩
    refine (awake_c _).mono ?_
    rintro e wA ⟨rfl, hbA⟩
    have stA := st3.ext hbA
    go_wp2
    go_ret
    exact ⟨rfl, stA.hb⟩
   | true =>
    have hVa := hbA.1 rfl
    clear hbA
    by_cases hK : K = 3
    case neg =>
     have hK2 : (K != 3) = true := by simp [hK]
     clear hbB hvq hVa
     refine wp_region_K [] [.val (.agg #[.int .i64 K, .slice Av l.length cv, vha]), .val (.bool true), .val (.bool false), .val (.bool false), .val (.pointer (some ⟨w.heap.size, 0, none⟩)), .val (.int .i64 K), .val (.bool true), .val (.bool true), .val (.bool true), .val (undef), .val (undef), .val (.bool true), .val (.bool true), .val (undef), .val (undef), .val (undef), .val (.bool true), .val (.bool true), .val (undef), .val (undef), .val (undef), .val (undef), .val (undef), .val (undef), .val (undef), .val (undef), .val (undef), .val (undef), .val (undef), .val (.bool true), .val (.bool true), .val (undef), .val (undef), .val (undef), .val (undef), .val (.bool true)] needs4
      mixed (by kernel_rfl) (by kernel_rfl) (allPre_of ⟨trivial, trivial, trivial, trivial, trivial, trivial, trivial, trivial, trivial, trivial, trivial, trivial, trivial, trivial, trivial, trivial, trivial, trivial, trivial, trivial, trivial, trivial, trivial, trivial, trivial, trivial, trivial, trivial, trivial, trivial, trivial, trivial, trivial, trivial, trivial, trivial, trivial⟩)
      ⟨OpOk.quiet rfl ?_, OpOk.call rfl ?_, OpOk.quiet rfl ?_, OpOk.quiet rfl ?_, qt rfl (by kernel_rfl) rfl ?_, qt rfl (by kernel_rfl) rfl ?_, qt rfl (by kernel_rfl) rfl ?_, OpOk.quiet rfl ?_, OpOk.quiet rfl ?_, sk rfl (by kernel_rfl) rfl, sk rfl (by kernel_rfl) rfl, OpOk.quiet rfl ?_, OpOk.quiet rfl ?_, sk rfl (by kernel_rfl) rfl, sk rfl (by kernel_rfl) rfl, sk rfl (by kernel_rfl) rfl, OpOk.quiet rfl ?_, OpOk.quiet rfl ?_, sk rfl (by kernel_rfl) rfl, sk rfl (by kernel_rfl) rfl, sk rfl (by kernel_rfl) rfl, sk rfl (by kernel_rfl) rfl, sk rfl (by kernel_rfl) rfl, sk rfl (by kernel_rfl) rfl, sk rfl (by kernel_rfl) rfl, sk rfl (by kernel_rfl) rfl, sk rfl (by kernel_rfl) rfl, sk rfl (by kernel_rfl) rfl, sk rfl (by kernel_rfl) rfl, OpOk.quiet rfl ?_, OpOk.quiet rfl ?_, sk rfl (by kernel_rfl) rfl, sk rfl (by kernel_rfl) rfl, sk rfl (by kernel_rfl) rfl, sk rfl (by kernel_rfl) rfl, OpOk.quiet rfl ?_, trivial⟩ ?_
     ·intro a u hG hf
      simp [facts, Need.fact, Ent.val, Act.eval] at hf
      obtain ⟨y0, y1, y2⟩ := st2.k3 hG 2 rfl
      go_simp
     ·intro a u hG hf
      simp [facts, Need.fact, Ent.val, Act.eval] at hf
      have hb5 := hG.below
      refine ⟨_, _, by go_simp, (isA u (a2.below hb5) (ah2.below hb5)).mono ?_⟩
      rintro e w' ⟨rfl, hb⟩
      exact ⟨_, rfl, hb, rfl⟩
     iterate 3
      ·intro a u _ hf
       simp [facts, Need.fact, Ent.val, Act.eval] at hf
       go_simp
     ·intro a u hG hf
      simp [facts, Need.fact, Ent.val, Act.eval] at hf
      obtain ⟨y0, y1, y2⟩ := st2.k3 hG 2 rfl
      go_simp
     iterate 10
      ·intro a u _ hf
       simp [facts, Need.fact, Ent.val, Act.eval] at hf
       go_simp
     intro u lw hw w3 hKp hE hI hD
     simp only [allE, Ent.val] at hE
     obtain ⟨u0, u1, u2, u3, u4, u5, u6, u7, u8, u9, u10, u11, u12, u13, u14, u15, u16, u17, u18, u19, u20, u21, u22, u23, u24, u25, u26, u27, u28, u29, u30, u31, u32, u33, u34, u35, -⟩ := hE
     simp only [Nat.reduceAdd] at u0 u1 u2 u3 u4 u5 u6 u7 u8 u9 u10 u11 u12 u13 u14 u15 u16 u17 u18 u19 u20 u21 u22 u23 u24 u25 u26 u27 u28 u29 u30 u31 u32 u33 u34 u35
     simp only [allPut, Act.put, Nat.reduceAdd, u0, u1, u2, u3, u4, u5, u6, u7, u8, u9, u10, u11, u12, u13, u14, u15, u16, u17, u18, u19, u20, u21, u22, u23, u24, u25, u26, u27, u28, u29, u30, u31, u32, u33, u34, u35]
     try simp only [List.setIfInBounds_toArray, List.set_cons_zero, List.set_cons_succ]
     clear hI hD u0 u1 u2 u3 u4 u5 u6 u7 u8 u9 u10 u11 u12 u13 u14 u15 u16 u17 u18 u19 u20 u21 u22 u23 u24 u25 u26 u27 u28 u29 u30 u31 u32 u33 u34 u35
     have hb := hKp.below
     have st3 := st2.keep hKp (fun i x _ => by simp) (fun x hx => by simp at hx)
     clear hKp hb st2 a2 ah2 b2 bh2 isA isB vpc u lw hw
     go_wp2_with (go_at_call 14; refine JR.StopM.out ?_)
     refine ⟨?_⟩
     refine (awake_c _).mono ?_
     rintro e wA ⟨rfl, hbA⟩
     have stA := st3.ext hbA
     go_wp2
     go_ret
     exact ⟨rfl, stA.hb⟩
    case pos =>
     subst hK
     by_cases h11 : l.length ≤ 11
     case neg =>
      have g11 : (11 : Int) < (l.length : Int) := by omega
      clear hbB hvq hVa
      refine wp_region_K [] [.val (.agg #[.int .i64 3, .slice Av l.length cv, vha]), .val (.bool true), .val (.bool false), .val (.bool false), .val (.pointer (some ⟨w.heap.size, 0, none⟩)), .val (.int .i64 3), .val (.bool false), .val (.bool false), .val (.bool false), .val (.int .i64 (l.length : Nat)), .val (.bool true), .val (.bool true), .val (.bool true), .val (undef), .val (undef), .val (undef), .val (.bool true), .val (.bool true), .val (undef), .val (undef), .val (undef), .val (undef), .val (undef), .val (undef), .val (undef), .val (undef), .val (undef), .val (undef), .val (undef), .val (.bool true), .val (.bool true), .val (undef), .val (undef), .val (undef), .val (undef), .val (.bool true)] needs4
       mixed (by kernel_rfl) (by kernel_rfl) (allPre_of ⟨trivial, trivial, trivial, trivial, trivial, trivial, trivial, trivial, trivial, trivial, trivial, trivial, trivial, trivial, trivial, trivial, trivial, trivial, trivial, trivial, trivial, trivial, trivial, trivial, trivial, trivial, trivial, trivial, trivial, trivial, trivial, trivial, trivial, trivial, trivial, trivial, trivial⟩)
       ⟨OpOk.quiet rfl ?_, OpOk.call rfl ?_, OpOk.quiet rfl ?_, OpOk.quiet rfl ?_, qt rfl (by kernel_rfl) rfl ?_, qt rfl (by kernel_rfl) rfl ?_, qt rfl (by kernel_rfl) rfl ?_, OpOk.quiet rfl ?_, OpOk.quiet rfl ?_, qt rfl (by kernel_rfl) rfl ?_, qt rfl (by kernel_rfl) rfl ?_, OpOk.quiet rfl ?_, OpOk.quiet rfl ?_, sk rfl (by kernel_rfl) rfl, sk rfl (by kernel_rfl) rfl, sk rfl (by kernel_rfl) rfl, OpOk.quiet rfl ?_, OpOk.quiet rfl ?_, sk rfl (by kernel_rfl) rfl, sk rfl (by kernel_rfl) rfl, sk rfl (by kernel_rfl) rfl, sk rfl (by kernel_rfl) rfl, sk rfl (by kernel_rfl) rfl, sk rfl (by kernel_rfl) rfl, sk rfl (by kernel_rfl) rfl, sk rfl (by kernel_rfl) rfl, sk rfl (by kernel_rfl) rfl, sk rfl (by kernel_rfl) rfl, sk rfl (by kernel_rfl) rfl, OpOk.quiet rfl ?_, OpOk.quiet rfl ?_, sk rfl (by kernel_rfl) rfl, sk rfl (by kernel_rfl) rfl, sk rfl (by kernel_rfl) rfl, sk rfl (by kernel_rfl) rfl, OpOk.quiet rfl ?_, trivial⟩ ?_
      ·intro a u hG hf
       simp [facts, Need.fact, Ent.val, Act.eval] at hf
       obtain ⟨y0, y1, y2⟩ := st2.k3 hG 2 rfl
       go_simp
      ·intro a u hG hf
       simp [facts, Need.fact, Ent.val, Act.eval] at hf
       have hb5 := hG.below
       refine ⟨_, _, by go_simp, (isA u (a2.below hb5) (ah2.below hb5)).mono ?_⟩
       rintro e w' ⟨rfl, hb⟩
       exact ⟨_, rfl, hb, rfl⟩
      iterate 3
       ·intro a u _ hf
        simp [facts, Need.fact, Ent.val, Act.eval] at hf
        go_simp
      ·intro a u hG hf
       simp [facts, Need.fact, Ent.val, Act.eval] at hf
       obtain ⟨y0, y1, y2⟩ := st2.k3 hG 2 rfl
       go_simp
      iterate 12
       ·intro a u _ hf
        simp [facts, Need.fact, Ent.val, Act.eval] at hf
        go_simp
      intro u lw hw w3 hKp hE hI hD
      simp only [allE, Ent.val] at hE
      obtain ⟨u0, u1, u2, u3, u4, u5, u6, u7, u8, u9, u10, u11, u12, u13, u14, u15, u16, u17, u18, u19, u20, u21, u22, u23, u24, u25, u26, u27, u28, u29, u30, u31, u32, u33, u34, u35, -⟩ := hE
      simp only [Nat.reduceAdd] at u0 u1 u2 u3 u4 u5 u6 u7 u8 u9 u10 u11 u12 u13 u14 u15 u16 u17 u18 u19 u20 u21 u22 u23 u24 u25 u26 u27 u28 u29 u30 u31 u32 u33 u34 u35
      simp only [allPut, Act.put, Nat.reduceAdd, u0, u1, u2, u3, u4, u5, u6, u7, u8, u9, u10, u11, u12, u13, u14, u15, u16, u17, u18, u19, u20, u21, u22, u23, u24, u25, u26, u27, u28, u29, u30, u31, u32, u33, u34, u35]
      try simp only [List.setIfInBounds_toArray, List.set_cons_zero, List.set_cons_succ]
      clear hI hD u0 u1 u2 u3 u4 u5 u6 u7 u8 u9 u10 u11 u12 u13 u14 u15 u16 u17 u18 u19 u20 u21 u22 u23 u24 u25 u26 u27 u28 u29 u30 u31 u32 u33 u34 u35
      have hb := hKp.below
      have st3 := st2.keep hKp (fun i x _ => by simp) (fun x hx => by simp at hx)
      clear hKp hb st2 a2 ah2 b2 bh2 isA isB vpc u lw hw
      go_wp2_with (go_at_call 14; refine JR.StopM.out ?_)
      refine ⟨?_⟩
      refine (awake_c _).mono ?_
      rintro e wA ⟨rfl, hbA⟩
      have stA := st3.ext hbA
      go_wp2
      go_ret
      exact ⟨rfl, stA.hb⟩
     case pos =>
      have g11 : ¬ (11 : Int) < (l.length : Int) := by omega
      cases bB with
      | false =>
       clear hbB hvq hVa
       refine wp_region_K [] [.val (.agg #[.int .i64 3, .slice Av l.length cv, vha]), .val (.bool true), .val (.bool false), .val (.bool false), .val (.pointer (some ⟨w.heap.size, 0, none⟩)), .val (.int .i64 3), .val (.bool false), .val (.bool false), .val (.bool false), .val (.int .i64 (l.length : Nat)), .val (.bool false), .val (.bool false), .val (.bool false), .val (.agg #[.int .i64 J, vb, vhb]), .val (.bool false), .val (.bool true), .val (.bool true), .val (.bool true), .val (undef), .val (undef), .val (undef), .val (undef), .val (undef), .val (undef), .val (undef), .val (undef), .val (undef), .val (undef), .val (undef), .val (.bool true), .val (.bool true), .val (undef), .val (undef), .val (undef), .val (undef), .val (.bool true)] needs4
        mixed (by kernel_rfl) (by kernel_rfl) (allPre_of ⟨trivial, trivial, trivial, trivial, trivial, trivial, trivial, trivial, trivial, trivial, trivial, trivial, trivial, trivial, trivial, trivial, trivial, trivial, trivial, trivial, trivial, trivial, trivial, trivial, trivial, trivial, trivial, trivial, trivial, trivial, trivial, trivial, trivial, trivial, trivial, trivial, trivial⟩)
        ⟨OpOk.quiet rfl ?_, OpOk.call rfl ?_, OpOk.quiet rfl ?_, OpOk.quiet rfl ?_, qt rfl (by kernel_rfl) rfl ?_, qt rfl (by kernel_rfl) rfl ?_, qt rfl (by kernel_rfl) rfl ?_, OpOk.quiet rfl ?_, OpOk.quiet rfl ?_, qt rfl (by kernel_rfl) rfl ?_, qt rfl (by kernel_rfl) rfl ?_, OpOk.quiet rfl ?_, OpOk.quiet rfl ?_, qt rfl (by kernel_rfl) rfl ?_, OpOk.callG rfl (by kernel_rfl) (gd rfl) ?_, qt rfl (by kernel_rfl) rfl ?_, OpOk.quiet rfl ?_, OpOk.quiet rfl ?_, sk rfl (by kernel_rfl) rfl, sk rfl (by kernel_rfl) rfl, sk rfl (by kernel_rfl) rfl, sk rfl (by kernel_rfl) rfl, sk rfl (by kernel_rfl) rfl, sk rfl (by kernel_rfl) rfl, sk rfl (by kernel_rfl) rfl, sk rfl (by kernel_rfl) rfl, sk rfl (by kernel_rfl) rfl, sk rfl (by kernel_rfl) rfl, sk rfl (by kernel_rfl) rfl, OpOk.quiet rfl ?_, OpOk.quiet rfl ?_, sk rfl (by kernel_rfl) rfl, sk rfl (by kernel_rfl) rfl, sk rfl (by kernel_rfl) rfl, sk rfl (by kernel_rfl) rfl, OpOk.quiet rfl ?_, trivial⟩ ?_
       ·intro a u hG hf
        simp [facts, Need.fact, Ent.val, Act.eval] at hf
        obtain ⟨y0, y1, y2⟩ := st2.k3 hG 2 rfl
        go_simp
       ·intro a u hG hf
        simp [facts, Need.fact, Ent.val, Act.eval] at hf
        have hb5 := hG.below
        refine ⟨_, _, by go_simp, (isA u (a2.below hb5) (ah2.below hb5)).mono ?_⟩
        rintro e w' ⟨rfl, hb⟩
        exact ⟨_, rfl, hb, rfl⟩
       iterate 3
        ·intro a u _ hf
         simp [facts, Need.fact, Ent.val, Act.eval] at hf
         go_simp
       ·intro a u hG hf
        simp [facts, Need.fact, Ent.val, Act.eval] at hf
        obtain ⟨y0, y1, y2⟩ := st2.k3 hG 2 rfl
        go_simp
       iterate 7
        ·intro a u _ hf
         simp [facts, Need.fact, Ent.val, Act.eval] at hf
         go_simp
       ·intro a u hG hf
        simp [facts, Need.fact, Ent.val, Act.eval] at hf
        obtain ⟨y0, y1, y2⟩ := st2.k3 hG 1 rfl
        go_simp
       ·intro a u hG hf
        simp [facts, Need.fact, Ent.val, Act.eval] at hf
        have hb5 := hG.below
        refine ⟨_, _, by go_simp, (isB u (b2.below hb5) (bh2.below hb5)).mono ?_⟩
        rintro e w' ⟨rfl, hb⟩
        exact ⟨_, rfl, hb, rfl⟩
       iterate 6
        ·intro a u _ hf
         simp [facts, Need.fact, Ent.val, Act.eval] at hf
         go_simp
       intro u lw hw w3 hKp hE hI hD
       simp only [allE, Ent.val] at hE
       obtain ⟨u0, u1, u2, u3, u4, u5, u6, u7, u8, u9, u10, u11, u12, u13, u14, u15, u16, u17, u18, u19, u20, u21, u22, u23, u24, u25, u26, u27, u28, u29, u30, u31, u32, u33, u34, u35, -⟩ := hE
       simp only [Nat.reduceAdd] at u0 u1 u2 u3 u4 u5 u6 u7 u8 u9 u10 u11 u12 u13 u14 u15 u16 u17 u18 u19 u20 u21 u22 u23 u24 u25 u26 u27 u28 u29 u30 u31 u32 u33 u34 u35
       simp only [allPut, Act.put, Nat.reduceAdd, u0, u1, u2, u3, u4, u5, u6, u7, u8, u9, u10, u11, u12, u13, u14, u15, u16, u17, u18, u19, u20, u21, u22, u23, u24, u25, u26, u27, u28, u29, u30, u31, u32, u33, u34, u35]
       try simp only [List.setIfInBounds_toArray, List.set_cons_zero, List.set_cons_succ]
       clear hI hD u0 u1 u2 u3 u4 u5 u6 u7 u8 u9 u10 u11 u12 u13 u14 u15 u16 u17 u18 u19 u20 u21 u22 u23 u24 u25 u26 u27 u28 u29 u30 u31 u32 u33 u34 u35
       have hb := hKp.below
       have st3 := st2.keep hKp (fun i x _ => by simp) (fun x hx => by simp at hx)
       clear hKp hb st2 a2 ah2 b2 bh2 isA isB vpc u lw hw
       go_wp2_with (go_at_call 14; refine JR.StopM.out ?_)
       refine ⟨?_⟩
       refine (awake_c _).mono ?_
       rintro e wA ⟨rfl, hbA⟩
       have stA := st3.ext hbA
       go_wp2
       go_ret
       exact ⟨rfl, stA.hb⟩
      | true =>
       have hVb := hbB.1 rfl
       clear hbB
       have oka := shOk_of hVa
       have okb := shOk_of hVb
       have h3l : 3 ≤ l.length := by
        rcases oka.2.2.2 with ⟨h, -⟩ | ⟨h, -⟩ | ⟨h, -⟩ | ⟨-, h, -⟩
        ·cases h
        ·cases h
        ·cases h
        ·exact h
       have i0' : (0 : Int) < (l.length : Int) := by omega
       obtain ⟨_, _, e', kg⟩ := id a2
       cases e'
       obtain ⟨bl, ol, rfl, e1, e2⟩ := kg 0 _ (at_get (show 0 < l.length by omega))
       obtain ⟨b', o', e', e3, e4⟩ := kg (l.length - 1) _ (at_get (show l.length - 1 < l.length by omega))
       cases e'
       clear kg
       simp only [Nat.zero_mul, Nat.add_zero] at e1 e2
       by_cases hfl : at' l 0 = at' l (l.length - 1)
       case pos =>
        have hfl2 := decide_eq_true hfl
        clear hfl hVa hVb oka okb hvq
        obtain ⟨N, hN⟩ : ∃ N, N = l.length - 1 := ⟨_, rfl⟩
        rw [← hN] at e3 e4 hfl2
        have i6 : (N : Int) < (l.length : Int) := by omega
        have i7 : (l.length : Int) - 1 = N := by omega
        have iw : IntKind.i64.wrap (N : Int) = (N : Int) := by
         unfold IntKind.wrap
         simp [IntKind.bits, IntKind.signed]
         omega
        clear hN
        generalize at' l 0 = p0 at *
        generalize at' l N = pN at *
        refine wp_region_K [] [.val (.agg #[.int .i64 3, .slice (some ⟨bl, ol, none⟩) l.length cv, vha]), .val (.bool true), .val (.bool false), .val (.bool false), .val (.pointer (some ⟨w.heap.size, 0, none⟩)), .val (.int .i64 3), .val (.bool false), .val (.bool false), .val (.bool false), .val (.int .i64 (l.length : Nat)), .val (.bool false), .val (.bool false), .val (.bool false), .val (.agg #[.int .i64 J, vb, vhb]), .val (.bool true), .val (.bool false), .val (.bool false), .val (.bool false), .val (.pointer (some ⟨w.heap.size, 1, none⟩)), .val (.slice (some ⟨bl, ol, none⟩) l.length cv), .val (.pointer (some ⟨bl, ol, none⟩)), .val (.agg #[.int .i64 p0.1, .int .i64 p0.2]), .val (.pointer (some ⟨w.heap.size, 1, none⟩)), .val (.slice (some ⟨bl, ol, none⟩) l.length cv), .val (.int .i64 (l.length : Nat)), .val (.int .i64 (N : Nat)), .val (.pointer (some ⟨bl, ol + N * 2, none⟩)), .val (.agg #[.int .i64 pN.1, .int .i64 pN.2]), .val (.bool true), .val (.bool true), .val (.bool true), .val (undef), .val (undef), .val (undef), .val (undef), .val (.bool true)] needs4
         mixed (by kernel_rfl) (by kernel_rfl) (allPre_of ⟨trivial, trivial, trivial, trivial, trivial, trivial, trivial, trivial, trivial, trivial, trivial, trivial, trivial, trivial, trivial, trivial, trivial, trivial, trivial, trivial, trivial, trivial, trivial, trivial, trivial, trivial, trivial, trivial, trivial, trivial, trivial, trivial, trivial, trivial, trivial, trivial, trivial⟩)
         ⟨OpOk.quiet rfl ?_, OpOk.call rfl ?_, OpOk.quiet rfl ?_, OpOk.quiet rfl ?_, qt rfl (by kernel_rfl) rfl ?_, qt rfl (by kernel_rfl) rfl ?_, qt rfl (by kernel_rfl) rfl ?_, OpOk.quiet rfl ?_, OpOk.quiet rfl ?_, qt rfl (by kernel_rfl) rfl ?_, qt rfl (by kernel_rfl) rfl ?_, OpOk.quiet rfl ?_, OpOk.quiet rfl ?_, qt rfl (by kernel_rfl) rfl ?_, OpOk.callG rfl (by kernel_rfl) (gd rfl) ?_, qt rfl (by kernel_rfl) rfl ?_, OpOk.quiet rfl ?_, OpOk.quiet rfl ?_, qt rfl (by kernel_rfl) rfl ?_, qt rfl (by kernel_rfl) rfl ?_, qt rfl (by kernel_rfl) rfl ?_, qt rfl (by kernel_rfl) rfl ?_, qt rfl (by kernel_rfl) rfl ?_, qt rfl (by kernel_rfl) rfl ?_, qt rfl (by kernel_rfl) rfl ?_, qt rfl (by kernel_rfl) rfl ?_, qt rfl (by kernel_rfl) rfl ?_, qt rfl (by kernel_rfl) rfl ?_, qt rfl (by kernel_rfl) rfl ?_, OpOk.quiet rfl ?_, OpOk.quiet rfl ?_, sk rfl (by kernel_rfl) rfl, sk rfl (by kernel_rfl) rfl, sk rfl (by kernel_rfl) rfl, sk rfl (by kernel_rfl) rfl, OpOk.quiet rfl ?_, trivial⟩ ?_
        ·intro a u hG hf
         simp [facts, Need.fact, Ent.val, Act.eval] at hf
         obtain ⟨y0, y1, y2⟩ := st2.k3 hG 2 rfl
         go_simp
        ·intro a u hG hf
         simp [facts, Need.fact, Ent.val, Act.eval] at hf
         have hb5 := hG.below
         refine ⟨_, _, by go_simp, (isA u (a2.below hb5) (ah2.below hb5)).mono ?_⟩
         rintro e w' ⟨rfl, hb⟩
         exact ⟨_, rfl, hb, rfl⟩
        iterate 3
         ·intro a u _ hf
          simp [facts, Need.fact, Ent.val, Act.eval] at hf
          go_simp
        ·intro a u hG hf
         simp [facts, Need.fact, Ent.val, Act.eval] at hf
         obtain ⟨y0, y1, y2⟩ := st2.k3 hG 2 rfl
         go_simp
        iterate 7
         ·intro a u _ hf
          simp [facts, Need.fact, Ent.val, Act.eval] at hf
          go_simp
        ·intro a u hG hf
         simp [facts, Need.fact, Ent.val, Act.eval] at hf
         obtain ⟨y0, y1, y2⟩ := st2.k3 hG 1 rfl
         go_simp
        ·intro a u hG hf
         simp [facts, Need.fact, Ent.val, Act.eval] at hf
         have hb5 := hG.below
         refine ⟨_, _, by go_simp, (isB u (b2.below hb5) (bh2.below hb5)).mono ?_⟩
         rintro e w' ⟨rfl, hb⟩
         exact ⟨_, rfl, hb, rfl⟩
        iterate 4
         ·intro a u _ hf
          simp [facts, Need.fact, Ent.val, Act.eval] at hf
          go_simp
        ·intro a u hG hf
         simp [facts, Need.fact, Ent.val, Act.eval] at hf
         obtain ⟨y0, y1, y2⟩ := st2.k3 hG 2 rfl
         go_simp
        ·intro a u _ hf
         have hln : ¬ l = [] := fun h => by rw [h] at h3l; simp at h3l
         simp [facts, Need.fact, Ent.val, Act.eval] at hf
         go_simp
        ·intro a u hG hf
         simp [facts, Need.fact, Ent.val, Act.eval] at hf
         have y0 := (hG.cell (World.block_lt_of_cell? w2 _ e1) (by simp)).trans e1
         have y1 := (hG.cell (World.block_lt_of_cell? w2 _ e2) (by simp)).trans e2
         go_simp
        ·intro a u _ hf
         simp [facts, Need.fact, Ent.val, Act.eval] at hf
         go_simp
        ·intro a u hG hf
         simp [facts, Need.fact, Ent.val, Act.eval] at hf
         obtain ⟨y0, y1, y2⟩ := st2.k3 hG 2 rfl
         go_simp
        iterate 3
         ·intro a u _ hf
          simp [facts, Need.fact, Ent.val, Act.eval] at hf
          go_simp
        ·intro a u hG hf
         simp [facts, Need.fact, Ent.val, Act.eval] at hf
         have y0 := (hG.cell (World.block_lt_of_cell? w2 _ e3) (by simp)).trans e3
         have y1 := (hG.cell (World.block_lt_of_cell? w2 _ e4) (by simp)).trans e4
         go_simp
        ·intro a u _ hf
         have hfl3 := of_decide_eq_true hfl2
         simp [facts, Need.fact, Ent.val, Act.eval] at hf
         clear hfl2
         go_simp
        iterate 3
         ·intro a u _ hf
          simp [facts, Need.fact, Ent.val, Act.eval] at hf
          go_simp
        intro u lw hw w3 hKp hE hI hD
        simp only [allE, Ent.val] at hE
        obtain ⟨u0, u1, u2, u3, u4, u5, u6, u7, u8, u9, u10, u11, u12, u13, u14, u15, u16, u17, u18, u19, u20, u21, u22, u23, u24, u25, u26, u27, u28, u29, u30, u31, u32, u33, u34, u35, -⟩ := hE
        simp only [Nat.reduceAdd] at u0 u1 u2 u3 u4 u5 u6 u7 u8 u9 u10 u11 u12 u13 u14 u15 u16 u17 u18 u19 u20 u21 u22 u23 u24 u25 u26 u27 u28 u29 u30 u31 u32 u33 u34 u35
        simp only [allPut, Act.put, Nat.reduceAdd, u0, u1, u2, u3, u4, u5, u6, u7, u8, u9, u10, u11, u12, u13, u14, u15, u16, u17, u18, u19, u20, u21, u22, u23, u24, u25, u26, u27, u28, u29, u30, u31, u32, u33, u34, u35]
        try simp only [List.setIfInBounds_toArray, List.set_cons_zero, List.set_cons_succ]
        clear hI hD u0 u1 u2 u3 u4 u5 u6 u7 u8 u9 u10 u11 u12 u13 u14 u15 u16 u17 u18 u19 u20 u21 u22 u23 u24 u25 u26 u27 u28 u29 u30 u31 u32 u33 u34 u35
        have hb := hKp.below
        have st3 := st2.keep hKp (fun i x _ => by simp) (fun x hx => by simp at hx)
        clear hKp hb st2 a2 ah2 b2 bh2 isA isB vpc u lw hw
        go_wp2_with (go_at_call 14; refine JR.StopM.out ?_)
        refine ⟨?_⟩
        refine (awake_c _).mono ?_
        rintro e wA ⟨rfl, hbA⟩
        have stA := st3.ext hbA
        go_wp2
        go_ret
        exact ⟨rfl, stA.hb⟩
       case neg =>
        have hfl2 := decide_eq_false hfl
        have okm := shOk_cls oka h11
        have hlike := cls_like h3l hfl
        have hq1 := (mtV_like (H := H) hlike h3l okb).1
        have hq2 := fun H => polHas_like (H := H) hlike p
        have hq3 : box (cls l) = box l := by
         have := cls_box h3l
         rwa [ppB_3 h3l, ppB_3 (by rw [cls_len]; omega)] at this
        have hq4 := cls_nS h3l
        have hq5 := nS_ne h3l hfl
        have hcp := cellsP_cls l
        have hcl := cls_len l
        have okc : ∀ q ∈ cls l, Bnd q := fun q hq => (okm.1 q hq).b
        have okl : ∀ q ∈ l, Bnd q := fun q hq => (oka.1 q hq).b
        clear hfl hlike hVb
        obtain ⟨N, hN⟩ : ∃ N, N = l.length - 1 := ⟨_, rfl⟩
        rw [← hN] at e3 e4 hfl2
        have i6 : (N : Int) < (l.length : Int) := by omega
        have i7 : (l.length : Int) - 1 = N := by omega
        have iw : IntKind.i64.wrap (N : Int) = (N : Int) := by
         unfold IntKind.wrap
         simp [IntKind.bits, IntKind.signed]
         omega
        clear hN
        generalize cls l = l' at *
        generalize at' l 0 = p0 at *
        generalize at' l N = pN at *
        refine wp_region_K [] [.val (.agg #[.int .i64 3, .slice (some ⟨bl, ol, none⟩) l.length cv, vha]), .val (.bool true), .val (.bool false), .val (.bool false), .val (.pointer (some ⟨w.heap.size, 0, none⟩)), .val (.int .i64 3), .val (.bool false), .val (.bool false), .val (.bool false), .val (.int .i64 (l.length : Nat)), .val (.bool false), .val (.bool false), .val (.bool false), .val (.agg #[.int .i64 J, vb, vhb]), .val (.bool true), .val (.bool false), .val (.bool false), .val (.bool false), .val (.pointer (some ⟨w.heap.size, 1, none⟩)), .val (.slice (some ⟨bl, ol, none⟩) l.length cv), .val (.pointer (some ⟨bl, ol, none⟩)), .val (.agg #[.int .i64 p0.1, .int .i64 p0.2]), .val (.pointer (some ⟨w.heap.size, 1, none⟩)), .val (.slice (some ⟨bl, ol, none⟩) l.length cv), .val (.int .i64 (l.length : Nat)), .val (.int .i64 (N : Nat)), .val (.pointer (some ⟨bl, ol + N * 2, none⟩)), .val (.agg #[.int .i64 pN.1, .int .i64 pN.2]), .val (.bool false), .val (.bool false), .val (.bool false), .val (.agg #[.int .i64 p.1, .int .i64 p.2]), .slc 42 #[.int .i64 p.1, .int .i64 p.2], .val (.bool vq), .val (.bool (!vq)), .val (.bool (!vq))] needs4
         mixed (by kernel_rfl) (by kernel_rfl) (allPre_of ⟨trivial, trivial, trivial, trivial, trivial, trivial, trivial, trivial, trivial, trivial, trivial, trivial, trivial, trivial, trivial, trivial, trivial, trivial, trivial, trivial, trivial, trivial, trivial, trivial, trivial, trivial, trivial, trivial, trivial, trivial, trivial, trivial, trivial, trivial, trivial, trivial, trivial⟩)
         ⟨OpOk.quiet rfl ?_, OpOk.call rfl ?_, OpOk.quiet rfl ?_, OpOk.quiet rfl ?_, qt rfl (by kernel_rfl) rfl ?_, qt rfl (by kernel_rfl) rfl ?_, qt rfl (by kernel_rfl) rfl ?_, OpOk.quiet rfl ?_, OpOk.quiet rfl ?_, qt rfl (by kernel_rfl) rfl ?_, qt rfl (by kernel_rfl) rfl ?_, OpOk.quiet rfl ?_, OpOk.quiet rfl ?_, qt rfl (by kernel_rfl) rfl ?_, OpOk.callG rfl (by kernel_rfl) (gd rfl) ?_, qt rfl (by kernel_rfl) rfl ?_, OpOk.quiet rfl ?_, OpOk.quiet rfl ?_, qt rfl (by kernel_rfl) rfl ?_, qt rfl (by kernel_rfl) rfl ?_, qt rfl (by kernel_rfl) rfl ?_, qt rfl (by kernel_rfl) rfl ?_, qt rfl (by kernel_rfl) rfl ?_, qt rfl (by kernel_rfl) rfl ?_, qt rfl (by kernel_rfl) rfl ?_, qt rfl (by kernel_rfl) rfl ?_, qt rfl (by kernel_rfl) rfl ?_, qt rfl (by kernel_rfl) rfl ?_, qt rfl (by kernel_rfl) rfl ?_, OpOk.quiet rfl ?_, OpOk.quiet rfl ?_, qt rfl (by kernel_rfl) rfl ?_, OpOk.slcG rfl (by kernel_rfl) (gd rfl) ?_, OpOk.callG rfl (by kernel_rfl) (gd rfl) ?_, qt rfl (by kernel_rfl) rfl ?_, OpOk.quiet rfl ?_, trivial⟩ ?_
        ·intro a u hG hf
         simp [facts, Need.fact, Ent.val, Act.eval] at hf
         obtain ⟨y0, y1, y2⟩ := st2.k3 hG 2 rfl
         go_simp
        ·intro a u hG hf
         simp [facts, Need.fact, Ent.val, Act.eval] at hf
         have hb5 := hG.below
         refine ⟨_, _, by go_simp, (isA u (a2.below hb5) (ah2.below hb5)).mono ?_⟩
         rintro e w' ⟨rfl, hb⟩
         exact ⟨_, rfl, hb, rfl⟩
        iterate 3
         ·intro a u _ hf
          simp [facts, Need.fact, Ent.val, Act.eval] at hf
          go_simp
        ·intro a u hG hf
         simp [facts, Need.fact, Ent.val, Act.eval] at hf
         obtain ⟨y0, y1, y2⟩ := st2.k3 hG 2 rfl
         go_simp
        iterate 7
         ·intro a u _ hf
          simp [facts, Need.fact, Ent.val, Act.eval] at hf
          go_simp
        ·intro a u hG hf
         simp [facts, Need.fact, Ent.val, Act.eval] at hf
         obtain ⟨y0, y1, y2⟩ := st2.k3 hG 1 rfl
         go_simp
        ·intro a u hG hf
         simp [facts, Need.fact, Ent.val, Act.eval] at hf
         have hb5 := hG.below
         refine ⟨_, _, by go_simp, (isB u (b2.below hb5) (bh2.below hb5)).mono ?_⟩
         rintro e w' ⟨rfl, hb⟩
         exact ⟨_, rfl, hb, rfl⟩
        iterate 4
         ·intro a u _ hf
          simp [facts, Need.fact, Ent.val, Act.eval] at hf
          go_simp
        ·intro a u hG hf
         simp [facts, Need.fact, Ent.val, Act.eval] at hf
         obtain ⟨y0, y1, y2⟩ := st2.k3 hG 2 rfl
         go_simp
        ·intro a u _ hf
         have hln : ¬ l = [] := fun h => by rw [h] at h3l; simp at h3l
         simp [facts, Need.fact, Ent.val, Act.eval] at hf
         go_simp
        ·intro a u hG hf
         simp [facts, Need.fact, Ent.val, Act.eval] at hf
         have y0 := (hG.cell (World.block_lt_of_cell? w2 _ e1) (by simp)).trans e1
         have y1 := (hG.cell (World.block_lt_of_cell? w2 _ e2) (by simp)).trans e2
         go_simp
        ·intro a u _ hf
         simp [facts, Need.fact, Ent.val, Act.eval] at hf
         go_simp
        ·intro a u hG hf
         simp [facts, Need.fact, Ent.val, Act.eval] at hf
         obtain ⟨y0, y1, y2⟩ := st2.k3 hG 2 rfl
         go_simp
        iterate 3
         ·intro a u _ hf
          simp [facts, Need.fact, Ent.val, Act.eval] at hf
          go_simp
        ·intro a u hG hf
         simp [facts, Need.fact, Ent.val, Act.eval] at hf
         have y0 := (hG.cell (World.block_lt_of_cell? w2 _ e3) (by simp)).trans e3
         have y1 := (hG.cell (World.block_lt_of_cell? w2 _ e4) (by simp)).trans e4
         go_simp
        ·intro a u _ hf
         have hfl3 := of_decide_eq_false hfl2
         simp [facts, Need.fact, Ent.val, Act.eval] at hf
         clear hfl2
         go_simp
         exact fun h1 h2 => hfl3 (Prod.ext h1 h2)
        iterate 2
         ·intro a u _ hf
          simp [facts, Need.fact, Ent.val, Act.eval] at hf
          go_simp
        ·intro a u hG hf
         simp [facts, Need.fact, Ent.val, Act.eval] at hf
         obtain ⟨y0, y1⟩ := st2.k2 hG 0 rfl
         go_simp
        ·intro a u _ hf
         simp [facts, Need.fact, Ent.val, Act.eval] at hf
         go_simp
        ·intro a u hG hf
         obtain ⟨-, ⟨_, _, g, hv, -, -, hg⟩, -⟩ := hf
         simp [Act.eval] at hv
         refine ⟨_, _, by go_simp, (vpc u _ (slP_blk hg)).mono ?_⟩
         rintro e w' ⟨rfl, hb⟩
         exact ⟨_, rfl, hb, rfl⟩
        iterate 2
         ·intro a u _ hf
          simp [facts, Need.fact, Ent.val, Act.eval] at hf
          go_simp
        intro u lw hw w3 hKp hE hI hD
        simp only [allE, Ent.val] at hE
        obtain ⟨u0, u1, u2, u3, u4, u5, u6, u7, u8, u9, u10, u11, u12, u13, u14, u15, u16, u17, u18, u19, u20, u21, u22, u23, u24, u25, u26, u27, u28, u29, u30, u31, -, u33, u34, u35, -⟩ := hE
        simp only [Nat.reduceAdd] at u0 u1 u2 u3 u4 u5 u6 u7 u8 u9 u10 u11 u12 u13 u14 u15 u16 u17 u18 u19 u20 u21 u22 u23 u24 u25 u26 u27 u28 u29 u30 u31 u33 u34 u35
        simp only [allPut, Act.put, Nat.reduceAdd, u0, u1, u2, u3, u4, u5, u6, u7, u8, u9, u10, u11, u12, u13, u14, u15, u16, u17, u18, u19, u20, u21, u22, u23, u24, u25, u26, u27, u28, u29, u30, u31, u33, u34, u35]
        try simp only [List.setIfInBounds_toArray, List.set_cons_zero, List.set_cons_succ]
        clear hI hD u0 u1 u2 u3 u4 u5 u6 u7 u8 u9 u10 u11 u12 u13 u14 u15 u16 u17 u18 u19 u20 u21 u22 u23 u24 u25 u26 u27 u28 u29 u30 u31 u33 u34 u35
        generalize u 32 = y32
        have hb := hKp.below
        have st3 := st2.keep hKp (fun i x _ => by simp) (fun x hx => by simp at hx)
        have a3 := a2.below hb
        have ah3 := ah2.below hb
        have b3 := b2.below hb
        have bh3 := bh2.below hb
        have hb3 := hb
        clear hKp hb st2 a2 ah2 b2 bh2 isA isB vpc u lw hw
        cases vq with
        | false =>
         clear hvq hVa oka okb okm hq1 hq2 hq3 hq4 hq5 hcp hcl okc okl a3 ah3 b3 bh3
         simp only [Bool.not_false]
         go_wp2_with (go_at_call 14; refine JR.StopM.out ?_)
         refine ⟨?_⟩
         refine (awake_c _).mono ?_
         rintro e wA ⟨rfl, hbA⟩
         have stA := st3.ext hbA
         go_wp2
         go_ret
         exact ⟨rfl, stA.hb⟩
        | true =>
         have hp3 : Bn3 p := by
          have hp := okP_m (of_decide_eq_true hvq).2.2 p (by simp)
          unfold Bn3
          omega
         clear hvq hVa
         simp only [Bool.not_true]
         clear hfl2 i6 i7 iw e3 e4
         have e1 := (hb3.cell (World.block_lt_of_cell? w2 _ e1)).trans e1
         have e2 := (hb3.cell (World.block_lt_of_cell? w2 _ e2)).trans e2
         clear hb3
         obtain ⟨i0, hi, hz0, hz1, hz2⟩ := info_parts infoP
         obtain ⟨Ah, ch, rfl⟩ : ∃ A c, vha = .slice A H.length c := by obtain ⟨A, c, h, -⟩ := ah3; exact ⟨A, c, h⟩
         go_wp2
         refine JQ.wp_region_K [] [JQ.Ent.of (fun v => ∃ b, v = .slice (some b) 0 0), JQ.Ent.val (.pointer (some ⟨w.heap.size, 1, none⟩)), JQ.Ent.val (.slice (some ⟨bl, ol, none⟩) l.length cv), JQ.Ent.own 42 2 l.length (cellsP l), JQ.Ent.val (.pointer (some ⟨w.heap.size, 1, none⟩)), JQ.Ent.val (.slice (some ⟨bl, ol, none⟩) l.length cv), JQ.Ent.val (.pointer (some ⟨bl, ol, none⟩)), JQ.Ent.val (.agg #[.int .i64 p0.1, .int .i64 p0.2]), JQ.Ent.slc 42 #[.int .i64 p0.1, .int .i64 p0.2], JQ.Ent.row 0 42 2 (l.length + 1) (cellsP l ++ [.int .i64 p0.1, .int .i64 p0.2]), JQ.Ent.val (.pointer (some ⟨w.heap.size, 2, none⟩)), JQ.Ent.val (.slice Ah H.length ch), JQ.Ent.fnS 76 (fun x => .agg #[.int .i64 3, slU x, .slice Ah H.length ch]), JQ.Ent.made 27 3, JQ.Ent.filledS 10 79 aggU 27]
          [[], [.ini 4], [.frm 1 68], [.frm 0 67, .frm 2 69], [.ini 4], [.frm 4 71], [.frm 5 72], [.frm 6 73], [.frm 7 74], [.frm 3 70, .frm 8 75], [.ini 4], [.frm 10 77], [.frm 9 76, .frm 11 78], [], [.frm 13 10, .frm 12 79]]
          mixed (by kernel_rfl) (by kernel_rfl) (JQ.rowsT_pre (B0 := 0) (T := 27) (i := 14) (k := 13) ⟨JQ.rt_of _, JQ.rt_val _, JQ.rt_val _, JQ.rt_own _ _ _ _, JQ.rt_val _, JQ.rt_val _, JQ.rt_val _, JQ.rt_val _, JQ.rt_slc _ _, JQ.rt_row _ _ _ _ (by decide), JQ.rt_val _, JQ.rt_val _, JQ.rt_fnS _ _, JQ.rt_self (.inr rfl) (fun _ => trivial), JQ.rt_self (.inl rfl) (fun _ => trivial), trivial⟩)
          ⟨JQ.OpOk.adds rfl ?_, JQ.OpOk.quiet rfl ?_, JQ.OpOk.quiet rfl ?_, JQ.OpOk.grows (inf := i0) rfl rfl Tryz.underlying24 hi hz0 hz1 hz2 rfl (by omega) (cellsP_len l) (by omega) (by unfold maxLen; omega) (by omega) ?_, JQ.OpOk.quiet rfl ?_, JQ.OpOk.quiet rfl ?_, JQ.OpOk.quiet rfl ?_, JQ.OpOk.quiet rfl ?_, JQ.OpOk.slc rfl ?_, JQ.OpOk.into (k := 3) (tk := 70) (inf := i0) rfl rfl Tryz.underlying24 hi hz0 hz1 hz2 rfl (by omega) (cellsP_len l) rfl (by simp [Value.oneCell']) (by unfold maxLen; omega) (by omega) (by kernel_rfl) (by kernel_rfl) rfl ⟨JQ.rt_of _, JQ.rt_val _, JQ.rt_val _, JQ.rt_self (.inr rfl) (fun _ => trivial), JQ.rt_val _, JQ.rt_val _, JQ.rt_val _, JQ.rt_val _, JQ.rt_slc _ _, JQ.rt_self (.inl rfl) (fun _ => trivial), JQ.rt_val _, JQ.rt_val _, JQ.rt_fnS _ _, JQ.rt_made _ _, JQ.rt_filledS _ _ _ (by decide), trivial⟩ (fun _ => rfl) ?_ (fun _ _ _ h hb => Keep.setRow h (.inl hb)), JQ.OpOk.quiet rfl ?_, JQ.OpOk.quiet rfl ?_, JQ.OpOk.fnS rfl ?_, JQ.OpOk.made (cs := #[.int .i64 0, .slice none 0 0, .slice none 0 0]) rfl rfl ?_, JQ.OpOk.fillT (k := 13) (n := 3) rfl (by kernel_rfl) (by kernel_rfl) rfl ⟨JQ.rt_of _, JQ.rt_val _, JQ.rt_val _, JQ.rt_own _ _ _ _, JQ.rt_val _, JQ.rt_val _, JQ.rt_val _, JQ.rt_val _, JQ.rt_slc _ _, JQ.rt_row _ _ _ _ (by decide), JQ.rt_val _, JQ.rt_val _, JQ.rt_fnS _ _, JQ.rt_self (.inr rfl) (fun _ => trivial), JQ.rt_self (.inl rfl) (fun _ => trivial), trivial⟩ (fun a w_ hf => hf.1) ?_ (fun _ _ _ h hb => Keep.setRow h (.inl hb)), trivial⟩ ?_
         ·intro a u _ hf
          refine ⟨.slice (some ⟨u.heap.size, 0, none⟩) 0 0, u.alloc (.cells #[] 42), by go_simp, JR.Ext.alloc _ _, _, rfl⟩
         ·intro a u _ hf
          simp [JQ.facts, JQ.Need.fact, JQ.Ent.val, Act.eval] at hf
          go_simp
         ·intro a u hG hf
          simp [JQ.facts, JQ.Need.fact, JQ.Ent.val, Act.eval] at hf
          obtain ⟨y0, y1, y2⟩ := st3.k3 hG 2 rfl
          go_simp
         ·intro a u hG hf
          obtain ⟨⟨_, _, b, f1⟩, ⟨_, _, f2⟩, -⟩ := hf
          refine ⟨b, _, _, f1, f2, fun j z hz => ?_⟩
          exact slP_cells (a3.below hG.below) j z hz
         ·intro a u _ hf
          simp [JQ.facts, JQ.Need.fact, JQ.Ent.val, Act.eval] at hf
          go_simp
         ·intro a u hG hf
          simp [JQ.facts, JQ.Need.fact, JQ.Ent.val, Act.eval] at hf
          obtain ⟨y0, y1, y2⟩ := st3.k3 hG 2 rfl
          go_simp
         ·intro a u _ hf
          have hln : ¬ l = [] := fun h => by rw [h] at h3l; simp at h3l
          simp [JQ.facts, JQ.Need.fact, JQ.Ent.val, Act.eval] at hf
          go_simp
         ·intro a u hG hf
          simp [JQ.facts, JQ.Need.fact, JQ.Ent.val, Act.eval] at hf
          have y0 := (hG.cell (World.block_lt_of_cell? w3 _ e1) (by simp)).trans e1
          have y1 := (hG.cell (World.block_lt_of_cell? w3 _ e2) (by simp)).trans e2
          go_simp
         ·intro a u _ hf
          simp [JQ.facts, JQ.Need.fact, JQ.Ent.val, Act.eval] at hf
          go_simp
         ·intro a u _ hf
          obtain ⟨f1, ⟨_, _, b, f2, -, -, f3⟩, -⟩ := hf
          exact ⟨f1, _, _, f2, row_cells f3⟩
         ·intro a u _ hf
          simp [JQ.facts, JQ.Need.fact, JQ.Ent.val, Act.eval] at hf
          go_simp
         ·intro a u hG hf
          simp [JQ.facts, JQ.Need.fact, JQ.Ent.val, Act.eval] at hf
          obtain ⟨y0, y1, y2⟩ := st3.k3 hG 2 rfl
          go_simp
         ·intro a u _ hf
          obtain ⟨⟨_, _, ⟨f1, f9⟩⟩, ⟨_, _, f2⟩, -⟩ := hf
          obtain ⟨A9, c9, f3⟩ := row_slice f1 f9
          have f2 : a.eval (.tmp 78) = .slice Ah H.length ch := f2
          simp [Act.eval] at f2 f3
          go_simp
          simp [f3, slU]
         ·intro a u _ hf
          clear hf
          go_simp
         ·intro a u b old hG hf hp hb hs
          obtain ⟨-, ⟨_, _, f1⟩, -⟩ := hf
          have f1 : a.eval (.tmp 79) = .agg #[.int .i64 3, slU (a.eval (.tmp 76)), .slice Ah H.length ch] := f1
          rw [f1]
          exact ⟨run_store_row 27 (.tmp 10) (.tmp 79) rfl b _ hp f1 27 old hb (by kernel_rfl) hs (by have e := slU_one (a.eval (.tmp 76)); simp [Value.oneCell'] at e; simp [aggU, Value.oneCell', e]), rfl⟩
         intro u lw hw wd hKp hE hI hD
         simp only [JQ.allE, JQ.Ent.val] at hE
         obtain ⟨-, u1, u2, -, u4, u5, u6, u7, -, u9, u10, u11, u12, -, u14, -⟩ := hE
         simp only [Nat.reduceAdd] at u1 u2 u4 u5 u6 u7 u9 u10 u11 u12 u14
         obtain ⟨r9, n9⟩ := u9
         obtain ⟨Ax, cx, f9⟩ := row_slice r9 n9
         obtain ⟨bx, q14, q15⟩ := u14
         simp [JQ.Ent.fnS, allPut, Act.put, Act.eval] at u12
         simp [allPut, Act.put, Act.eval] at q14 q15
         rw [f9] at u12
         rw [u12] at q15
         simp only [aggU, slU] at q15 u12
         rw [← hcp, ← hcl] at r9
         have m4 := SlP.own r9
         rw [f9] at m4
         simp only [allPut, Act.put, Nat.reduceAdd, u1, u2, u4, u5, u6, u7, u10, u11, u12, f9, q14]
         try simp only [List.setIfInBounds_toArray, List.set_cons_zero, List.set_cons_succ]
         have hb := hKp.below
         have st4 := (st3.keep hKp (fun i x _ => by simp) (fun x hx => by simp at hx)).add q15
         have a4 := a3.below hb
         have ah4 := ah3.below hb
         have b4 := b3.below hb
         have bh4 := bh3.below hb
         generalize u 0 = y0
         generalize u 3 = y3
         generalize u 8 = y8
         clear hI hD u1 u2 u4 u5 u6 u7 u10 u11 u12 f9 q14 q15 r9 n9 hcp hKp hb st3 a3 ah3 b3 bh3 e1 e2 hi hz0 hz1 hz2 u lw hw
         obtain ⟨ki, hki, hki2⟩ : ∃ ki : Nat, XK % 3 = ki ∧ ki ≤ 2 := ⟨XK % 3, rfl, by omega⟩
         have hrem : (XK : Int).tmod 3 = (ki : Int) := by rw [Int.tmod_eq_emod_of_nonneg (by omega)]; omega
         have wk1 : IntKind.i64.wrap (ki : Int) = (ki : Int) := by
          unfold IntKind.wrap
          simp [IntKind.bits, IntKind.signed]
          omega
         clear hki
         have s8a := fun u h => (seriesOf_true ki hki2 l (by omega) (by omega) (fun _ => h3l) okl (.slice (some ⟨bl, ol, none⟩) l.length cv) u h).mono (fun e w' hx => soP_as (congrArg Int.ofNat hq5) rfl hx)
         have s8b := fun u v h => (seriesOf_true ki hki2 l' (by omega) (by omega) (fun _ => by omega) okc v u h).mono (fun e w' hx => soP_as (congrArg Int.ofNat hq4) hq3 hx)
         clear hq3 hq4 hq5 okc okl
         go_wp2
         refine wp_region_K [] [.val (.pointer (some ⟨w.heap.size, 1, none⟩)), .val (.slice (some ⟨bl, ol, none⟩) l.length cv), .val (.int .i64 ki), .of (fun v => ∃ cs, v = .agg cs ∧ SaC (Int.ofNat l.length) (box l) cs), .val (.pointer (some ⟨bx, 1, none⟩)), .val (.slice Ax (l.length + 1) cx), .val (.int .i64 ki), .of (fun v => ∃ cs, v = .agg cs ∧ SaC (Int.ofNat l.length) (box l) cs), .made 51 13, .made 51 13, .filledP 12 (SaC (Int.ofNat l.length) (box l)) 51, .filledP 13 (SaC (Int.ofNat l.length) (box l)) 51]
          [[.ini 4], [.frm 0 83], [.ini 11], [.frm 1 84, .frm 2 85], [.ini 10], [.frm 4 87], [.ini 11], [.frm 5 88, .frm 6 89], [], [], [.frm 8 12, .frm 3 86], [.frm 9 13, .frm 7 90]]
          mixed (by kernel_rfl) (by kernel_rfl) (allPre_of ⟨trivial, trivial, trivial, trivial, trivial, trivial, trivial, trivial, trivial, trivial, trivial, trivial, trivial⟩)
          ⟨OpOk.quiet rfl ?_, OpOk.quiet rfl ?_, OpOk.quiet rfl ?_, OpOk.call rfl ?_, OpOk.quiet rfl ?_, OpOk.quiet rfl ?_, OpOk.quiet rfl ?_, OpOk.call rfl ?_, OpOk.made (cs := #[.int .i64 0, .int .i64 0, .slice none 0 0, .slice none 0 0, .int .i64 0, .int .i64 0, .int .i64 0, .int .i64 0, .bool false, .bool false, .bool false, .bool false, .bool false]) rfl rfl ?_, OpOk.made (cs := #[.int .i64 0, .int .i64 0, .slice none 0 0, .slice none 0 0, .int .i64 0, .int .i64 0, .int .i64 0, .int .i64 0, .bool false, .bool false, .bool false, .bool false, .bool false]) rfl rfl ?_, OpOk.fill (k := 8) rfl (by kernel_rfl) rfl (oldLt_of ⟨(fun _ h => (nomatch h)), (fun _ h => (nomatch h)), (fun _ h => (nomatch h)), (fun _ h => (nomatch h)), (fun _ h => (nomatch h)), (fun _ h => (nomatch h)), (fun _ h => (nomatch h)), (fun _ h => (nomatch h)), (fun _ h => (nomatch h)), (fun _ h => (nomatch h)), (fun _ h => (nomatch h)), (fun _ h => (nomatch h)), trivial⟩) (fun a w_ hf => hf.1) (fun a w_ b old _ hf hp hb hs => by obtain ⟨-, ⟨_, _, cs, hv, hc⟩, -⟩ := hf; obtain ⟨x1, x2, x3, x4, x5, x6, x7, x8, x9, x10, x11, x12, rfl⟩ := hc; exact ⟨.skip, _, run_store_row 51 (.tmp 12) (.tmp 86) rfl b _ hp hv 51 old hb (by kernel_rfl) hs (by simp [Value.oneCell']), .inl rfl, ⟨x1, x2, x3, x4, x5, x6, x7, x8, x9, x10, x11, x12, rfl⟩, rfl⟩) (fun _ _ _ h hb => Keep.setRow h (.inl hb)), OpOk.fill (k := 9) rfl (by kernel_rfl) rfl (oldLt_of ⟨(fun _ h => (nomatch h)), (fun _ h => (nomatch h)), (fun _ h => (nomatch h)), (fun _ h => (nomatch h)), (fun _ h => (nomatch h)), (fun _ h => (nomatch h)), (fun _ h => (nomatch h)), (fun _ h => (nomatch h)), (fun _ h => (nomatch h)), (fun _ h => (nomatch h)), (fun _ h => (nomatch h)), (fun _ h => (nomatch h)), trivial⟩) (fun a w_ hf => hf.1) (fun a w_ b old _ hf hp hb hs => by obtain ⟨-, ⟨_, _, cs, hv, hc⟩, -⟩ := hf; obtain ⟨x1, x2, x3, x4, x5, x6, x7, x8, x9, x10, x11, x12, rfl⟩ := hc; exact ⟨.skip, _, run_store_row 51 (.tmp 13) (.tmp 90) rfl b _ hp hv 51 old hb (by kernel_rfl) hs (by simp [Value.oneCell']), .inl rfl, ⟨x1, x2, x3, x4, x5, x6, x7, x8, x9, x10, x11, x12, rfl⟩, rfl⟩) (fun _ _ _ h hb => Keep.setRow h (.inl hb)), trivial⟩ ?_
         ·intro a u _ hf
          simp [facts, Need.fact, Ent.val, Act.eval] at hf
          go_simp
         ·intro a u hG hf
          simp [facts, Need.fact, Ent.val, Act.eval] at hf
          obtain ⟨y0, y1, y2⟩ := st4.k3 hG 3 rfl
          go_simp
         ·intro a u _ hf
          simp [facts, Need.fact, Ent.val, Act.eval] at hf
          go_simp
         ·intro a u hG hf
          simp [facts, Need.fact, Ent.val, Act.eval] at hf
          have hb5 := hG.below
          refine ⟨_, _, by go_simp, (s8a u (a4.below hb5)).mono ?_⟩
          rintro e w' ⟨v', rfl, hb, hc⟩
          exact ⟨_, rfl, hb, hc⟩
         ·intro a u _ hf
          simp [facts, Need.fact, Ent.val, Act.eval] at hf
          go_simp
         ·intro a u hG hf
          simp [facts, Need.fact, Ent.val, Act.eval] at hf
          obtain ⟨y0, y1, y2⟩ := st4.k3 hG 0 rfl
          go_simp
         ·intro a u _ hf
          simp [facts, Need.fact, Ent.val, Act.eval] at hf
          go_simp
         ·intro a u hG hf
          simp [facts, Need.fact, Ent.val, Act.eval] at hf
          have hb5 := hG.below
          refine ⟨_, _, by go_simp, (s8b u _ (m4.below hb5)).mono ?_⟩
          rintro e w' ⟨v', rfl, hb, hc⟩
          exact ⟨_, rfl, hb, hc⟩
         ·intro a u _ hf
          clear hf
          go_simp
         ·intro a u _ hf
          clear hf
          go_simp
         intro u lw hw we hKp hE hI hD
         simp only [allE, Ent.val] at hE
         obtain ⟨u0, u1, u2, -, u4, u5, u6, -, -, -, u10, u11, -⟩ := hE
         simp only [Nat.reduceAdd] at u0 u1 u2 u4 u5 u6 u10 u11
         obtain ⟨b12, cs, f12, hc, k12⟩ := u10
         obtain ⟨x1, x2, x3, x4, x5, x6, x7, x8, x9, x10, x11, x12, rfl⟩ := hc
         obtain ⟨b13, cs, f13, hc, k13⟩ := u11
         obtain ⟨z1, z2, z3, z4, z5, z6, z7, z8, z9, z10, z11, z12, rfl⟩ := hc
         simp [allPut, Act.put, Act.eval] at f12 f13
         simp only [allPut, Act.put, Nat.reduceAdd, u0, u1, u2, u4, u5, u6, f12, f13]
         try simp only [List.setIfInBounds_toArray, List.set_cons_zero, List.set_cons_succ]
         have hb := hKp.below
         have st5 := ((st4.keep hKp (fun i x _ => by simp) (fun x hx => by simp at hx)).add k12).add k13
         have a5 := a4.below hb
         have ah5 := ah4.below hb
         have b5 := b4.below hb
         have bh5 := bh4.below hb
         have m5 := m4.below hb
         generalize u 3 = y3'
         generalize u 7 = y7'
         generalize u 10 = y10'
         generalize u 11 = y11'
         clear hI hD u0 u1 u2 u4 u5 u6 f12 f13 k12 k13 hKp hb st4 a4 ah4 b4 bh4 m4 s8a s8b u lw hw
         have y1 := st5.cell 0 rfl 1
         have y4 := st5.cell 0 rfl 4
         have y5 := st5.cell 0 rfl 5
         have y6 := st5.cell 0 rfl 6
         have y7 := st5.cell 0 rfl 7
         have v1 := st5.cell 1 rfl 1
         have v4 := st5.cell 1 rfl 4
         have v5 := st5.cell 1 rfl 5
         have v6 := st5.cell 1 rfl 6
         have v7 := st5.cell 1 rfl 7
         have g0 := st5.cell 3 rfl 0
         have g1 := st5.cell 3 rfl 1
         simp only [List.getElem?_toArray, List.getElem?_cons_zero, List.getElem?_cons_succ] at y1 y4 y5 y6 y7 v1 v4 v5 v6 v7 g0 g1
         have hea := eqArr2C
         have isa := fun u h1 h2 h3 h4 => isx_c hki2 3 l H oka J m G okb (.slice (some ⟨bl, ol, none⟩) l.length cv) (.slice Ah H.length ch) vb vhb u h1 h2 h3 h4
         have ism := fun u h1 h2 h3 h4 => isx_c hki2 3 l' H okm J m G okb (.slice Ax (l.length + 1) cx) (.slice Ah H.length ch) vb vhb u h1 h2 h3 h4
         rw [← hq1] at ism
         have aka := fun u vp vq h1 h2 h3 h4 => ask_holeC hki2 oka hp3 (.slice (some ⟨bl, ol, none⟩) l.length cv) (.slice Ah H.length ch) vp vq u h1 h2 h3 h4
         have akm := fun u vp vq h1 h2 h3 h4 => ask_holeC hki2 okm hp3 (.slice Ax (l.length + 1) cx) (.slice Ah H.length ch) vp vq u h1 h2 h3 h4
         rw [← hq2] at akm
         obtain ⟨r1, hr1⟩ : ∃ r, mtV 3 l H J m G = r := ⟨_, rfl⟩
         obtain ⟨r2, hr2⟩ : ∃ r, polHas l H p = r := ⟨_, rfl⟩
         simp only [hr1] at isa ism
         simp only [hr2] at aka akm
         clear hr1 hr2 hq1 hq2 oka okb okm hp3 hcl
         obtain ⟨d0, d1, d2⟩ := st5.c3 5 rfl
         obtain ⟨h0, h1, h2⟩ := st5.c3 2 rfl
         have st8 := (st5.push (b := we.heap.size) rfl #[.int .i64 p.1, .int .i64 p.2] 42).push (b := we.heap.size + 1) (by simp) #[.int .i64 0, .slice (some ⟨we.heap.size, 0, none⟩) 1 1, .slice none 0 0] 27
         have hb := ((Below.refl we.heap.size we).alloc (Nat.le_refl _) (.cells #[.int .i64 p.1, .int .i64 p.2] 42)).alloc (by simp) (.cells #[.int .i64 0, .slice (some ⟨we.heap.size, 0, none⟩) 1 1, .slice none 0 0] 27)
         have a8 := a5.below hb
         have ah8 := ah5.below hb
         have b8 := b5.below hb
         have bh8 := bh5.below hb
         have m8 := m5.below hb
         have sp8 := slP_blk (st8.known 1 _ rfl)
         obtain ⟨f0, f1, f2⟩ := st8.c3 7 rfl
         obtain ⟨j0, j1, j2⟩ := st8.c3 0 rfl
         clear hb a5 ah5 b5 bh5 m5
         go_wp2_with (go_at_call 22; refine JR.StopM.out ?_)
         refine ⟨?_⟩
         refine (aka _ _ _ a8 ah8 sp8 slH_noneC).mono ?_
         rintro e w9 ⟨rfl, hb⟩
         have st9 := st8.ext hb
         have a9 := a8.below hb
         have ah9 := ah8.below hb
         have b9 := b8.below hb
         have bh9 := bh8.below hb
         have m9 := m8.below hb
         have sp9 := sp8.below hb
         clear hb st5 st8 a8 ah8 b8 bh8 m8 sp8 aka y1 y4 y5 y6 y7 v1 v4 v5 v6 v7 g0 g1 hea d0 d1 d2 h0 h1 h2 f0 f1 f2 j0 j1 j2
         obtain ⟨d0, d1, d2⟩ := st9.c3 4 rfl
         obtain ⟨g0, g1, g2⟩ := st9.c3 0 rfl
         go_wp2_with (go_at_call 22; refine JR.StopM.out ?_)
         refine ⟨?_⟩
         refine (akm _ _ _ m9 ah9 sp9 slH_noneC).mono ?_
         rintro e w10 ⟨rfl, hb⟩
         have st10 := st9.ext hb
         have a10 := a9.below hb
         have ah10 := ah9.below hb
         have b10 := b9.below hb
         have bh10 := bh9.below hb
         have m10 := m9.below hb
         have sp10 := sp9.below hb
         clear hb st9 a9 ah9 b9 bh9 m9 sp9 akm d0 d1 d2 g0 g1 g2 hrem wk1
         go_wp2
         refine wp_region_K [] [.val (.bool r2), .val (.bool r2), .val (.bool true), .val (.bool true), .val (.agg #[.int .i64 3, .slice (some ⟨bl, ol, none⟩) l.length cv, .slice Ah H.length ch]), .val (.agg #[.int .i64 J, vb, vhb]), .val (.int .i64 ki), .val (.bool r1), .val (.agg #[.int .i64 3, .slice Ax (l.length + 1) cx, .slice Ah H.length ch]), .val (.agg #[.int .i64 J, vb, vhb]), .val (.int .i64 ki), .val (.bool r1), .val (.bool true), .val (.bool true), .val (.bool true), .val (.bool true), .val (.bool true), .val (.bool true)]
          [[.ini 15], [.ini 17], [.frm 0 120, .frm 1 121], [.frm 2 122], [.frm 3 123, .ini 4], [.frm 3 123, .ini 5], [.frm 3 123, .ini 11], [.frm 3 123, .frm 4 124, .frm 5 125, .frm 6 126], [.frm 3 123, .ini 10], [.frm 3 123, .ini 5], [.frm 3 123, .ini 11], [.frm 3 123, .frm 8 128, .frm 9 129, .frm 10 130], [.frm 3 123, .frm 7 127, .frm 11 131], [.frm 3 123, .frm 12 132], [.frm 13 133], [.frm 14 134], [.frm 14 134, .frm 15 135], [.frm 16 136]]
          mixed (by kernel_rfl) (by kernel_rfl) (allPre_of ⟨trivial, trivial, trivial, trivial, trivial, trivial, trivial, trivial, trivial, trivial, trivial, trivial, trivial, trivial, trivial, trivial, trivial, trivial, trivial⟩)
          ⟨OpOk.quiet rfl ?_, OpOk.quiet rfl ?_, OpOk.quiet rfl ?_, OpOk.quiet rfl ?_, qt rfl (by kernel_rfl) rfl ?_, qt rfl (by kernel_rfl) rfl ?_, qt rfl (by kernel_rfl) rfl ?_, OpOk.callG rfl (by kernel_rfl) (gd rfl) ?_, qt rfl (by kernel_rfl) rfl ?_, qt rfl (by kernel_rfl) rfl ?_, qt rfl (by kernel_rfl) rfl ?_, OpOk.callG rfl (by kernel_rfl) (gd rfl) ?_, qt rfl (by kernel_rfl) rfl ?_, OpOk.quiet rfl ?_, OpOk.quiet rfl ?_, OpOk.callG rfl (by kernel_rfl) (gd rfl) ?_, OpOk.quiet rfl ?_, OpOk.quiet rfl ?_, trivial⟩ ?_
         ·intro a u _ hf
          simp [facts, Need.fact, Ent.val, Act.eval] at hf
          go_simp
         ·intro a u _ hf
          simp [facts, Need.fact, Ent.val, Act.eval] at hf
          go_simp
         ·intro a u _ hf
          simp [facts, Need.fact, Ent.val, Act.eval] at hf
          cases r2 <;> go_simp
         ·intro a u _ hf
          simp [facts, Need.fact, Ent.val, Act.eval] at hf
          go_simp
         ·intro a u hG hf
          simp [facts, Need.fact, Ent.val, Act.eval] at hf
          obtain ⟨y0, y1, y2⟩ := st10.k3 hG 7 rfl
          go_simp
         ·intro a u hG hf
          simp [facts, Need.fact, Ent.val, Act.eval] at hf
          obtain ⟨y0, y1, y2⟩ := st10.k3 hG 6 rfl
          go_simp
         ·intro a u _ hf
          simp [facts, Need.fact, Ent.val, Act.eval] at hf
          go_simp
         ·intro a u hG hf
          simp [facts, Need.fact, Ent.val, Act.eval] at hf
          have hb5 := hG.below
          refine ⟨_, _, by go_simp, (isa u (a10.below hb5) (ah10.below hb5) (b10.below hb5) (bh10.below hb5)).mono ?_⟩
          rintro e w' ⟨rfl, hb⟩
          exact ⟨_, rfl, hb, rfl⟩
         ·intro a u hG hf
          simp [facts, Need.fact, Ent.val, Act.eval] at hf
          obtain ⟨y0, y1, y2⟩ := st10.k3 hG 4 rfl
          go_simp
         ·intro a u hG hf
          simp [facts, Need.fact, Ent.val, Act.eval] at hf
          obtain ⟨y0, y1, y2⟩ := st10.k3 hG 6 rfl
          go_simp
         ·intro a u _ hf
          simp [facts, Need.fact, Ent.val, Act.eval] at hf
          go_simp
         ·intro a u hG hf
          simp [facts, Need.fact, Ent.val, Act.eval] at hf
          have hb5 := hG.below
          refine ⟨_, _, by go_simp, (ism u (m10.below hb5) (ah10.below hb5) (b10.below hb5) (bh10.below hb5)).mono ?_⟩
          rintro e w' ⟨rfl, hb⟩
          exact ⟨_, rfl, hb, rfl⟩
         ·intro a u _ hf
          simp [facts, Need.fact, Ent.val, Act.eval] at hf
          cases r1 <;> go_simp
         ·intro a u _ hf
          simp [facts, Need.fact, Ent.val, Act.eval] at hf
          go_simp
         ·intro a u _ hf
          simp [facts, Need.fact, Ent.val, Act.eval] at hf
          go_simp
         ·intro a u hG hf
          simp [facts, Need.fact, Ent.val, Act.eval] at hf
          have hb5 := hG.below
          refine ⟨_, _, by go_simp, (awake_c u).mono ?_⟩
          rintro e w' ⟨rfl, hb⟩
          exact ⟨_, rfl, hb, rfl⟩
         ·intro a u _ hf
          simp [facts, Need.fact, Ent.val, Act.eval] at hf
          go_simp
         ·intro a u _ hf
          simp [facts, Need.fact, Ent.val, Act.eval] at hf
          go_simp
         intro u lw hw wd hKp hE hI hD
         simp only [allE, Ent.val] at hE
         obtain ⟨u0, u1, u2, u3, u4, u5, u6, u7, u8, u9, u10, u11, u12, u13, u14, u15, u16, u17, -⟩ := hE
         simp only [Nat.reduceAdd] at u0 u1 u2 u3 u4 u5 u6 u7 u8 u9 u10 u11 u12 u13 u14 u15 u16 u17
         simp only [allPut, Act.put, Nat.reduceAdd, u0, u1, u2, u3, u4, u5, u6, u7, u8, u9, u10, u11, u12, u13, u14, u15, u16, u17]
         try simp only [List.setIfInBounds_toArray, List.set_cons_zero, List.set_cons_succ]
         clear hI hD isa ism u0 u1 u2 u3 u4 u5 u6 u7 u8 u9 u10 u11 u12 u13 u14 u15 u16 u17
         have st11 := st10.keep hKp (fun i x _ => by simp) (fun x hx => by simp at hx)
         clear hKp st10 a10 ah10 b10 bh10 m10 sp10
         go_wp2
         go_ret
         exact ⟨rfl, st11.hb⟩
end Go.Proofs.YtbfanhdofopnnaaGreat
