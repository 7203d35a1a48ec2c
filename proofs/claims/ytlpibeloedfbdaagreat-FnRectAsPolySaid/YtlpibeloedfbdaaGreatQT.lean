import Derived.Test.YtlpibeloedfbdaaGreatJb
set_option linter.unusedSimpArgs false
set_option linter.unusedVariables false
/-! a value stored into a new block, while another operation's pointer leads into a block that a call has made -/
namespace JR
open Go Go.RowKit
section
variable {P : Program} {ops : Array Oper} {Q : Exit → Act → World → Prop} {G : World → Prop} {B0 : Nat} {plan : List Ent} {a0 : Act} {i : Nat} {o : Oper} {ns : List Need}
end
/-! The law for drawn regions, where an operation may ask for what came two steps ahead of it. -/
def needOk2 (ops : List Oper) (i : Nat) (o : Oper) : Need → Bool
  | .frm k t => ((dep o).contains k || (dep o).any fun m => ((ops[m]?).map fun x => (dep x).contains k).getD false) && ((ops[k]?).bind (·.dst) == some t)
  | .ini t => ops.zipIdx.all fun (x, k) => k == i || x.dst != some t || (dep x).contains i
  | .eff k => (dep o).contains k
  | .til k => ((ops[k]?).map fun x => k == i || (dep x).contains i).getD false

def needsOk2 (ops : List Oper) : Nat → List Oper → List (List Need) → Bool
  | _, [], [] => true
  | i, o :: l, n :: ns => n.all (needOk2 ops i o) && needsOk2 ops (i + 1) l ns
  | _, _, _ => false

theorem needsOk2_get {ops : List Oper} : ∀ (l : List Oper) (ns : List (List Need)) (i : Nat), needsOk2 ops i l ns = true →
    ∀ j o n, l[j]? = some o → ns[j]? = some n → ∀ x ∈ n, needOk2 ops (i + j) o x = true := by
  intro l
  induction l with
  | nil => intro ns i _ j o n ho; simp at ho
  | cons a l ih =>
    intro ns i h j o n ho hn x hx
    cases ns with
    | nil => simp [needsOk2] at h
    | cons m ns =>
      simp only [needsOk2, Bool.and_eq_true, List.all_eq_true] at h
      cases j with
      | zero => simp at ho hn; subst ho; subst hn; exact h.1 x hx
      | succ j =>
        rw [show i + (j + 1) = i + 1 + j from by omega]
        exact ih ns (i + 1) h.2 j o n (by simpa using ho) (by simpa using hn) x hx

section
variable {P : Program} {ops : Array Oper} {Q : Exit → Act → World → Prop} {G : World → Prop} {B0 : Nat} {plan : List Ent} {a0 : Act} {ns : List (List Need)}

/-- the walk through a region in whatever order -/
theorem wpAny_J2 (hback : backL 0 ops.toList = true) (huniq : uniqL a0.tmps.size ops.toList = true) (hslots : slotsL ops.toList ops.toList plan = true)
    (hneeds : needsOk2 ops.toList 0 ops.toList ns = true) (hGE : ∀ w w', Ext w w' → G w → G w') (hGB : ∀ w, G w → B0 ≤ w.heap.size)
    (hok : opsOk P ops Q G B0 plan a0 0 ops.toList plan ns)
    (hend : ∀ u l h w, G w → allE u l h (allPut u 0 ops.toList a0) w 0 plan → (∀ j, j < ops.size → h j ≤ w.heap.size ∧ B0 ≤ l j) → (∀ j k, j < ops.size → k < ops.size → j ≠ k → h j ≤ l k ∨ h k ≤ l j) → Q .normal (allPut u 0 ops.toList a0) w) :
    ∀ (fuel : Nat) (listed : Array Bool) (u : Nat → Value) (l h : Nat → Nat) (w : World),
      listed.size = ops.size → (listed.toList.filter (! ·)).length = fuel →
      (∀ j o, ops[j]? = some o → listed.getD j false = true → ∀ x ∈ dep o, listed.getD x false = true) →
      G w → (∀ j e, plan[j]? = some e → listed.getD j false = true → e.E (u j) (l j) (h j) (putsL (fun j => listed.getD j false) u 0 ops.toList a0) w) →
      (∀ j e, plan[j]? = some e → listed.getD j false = false → e.pre w) →
      (∀ j, listed.getD j false = true → h j ≤ w.heap.size ∧ B0 ≤ l j) →
      (∀ j k, listed.getD j false = true → listed.getD k false = true → j ≠ k → h j ≤ l k ∨ h k ≤ l j) →
      wpAny P .any ops Q fuel listed (putsL (fun j => listed.getD j false) u 0 ops.toList a0) w := by
  obtain ⟨hlen, hget⟩ := opsOk_get _ _ _ _ hok
  intro fuel
  induction fuel with
  | zero =>
    intro listed u l h w hsz hcount hdown hG hE hP hF hD
    have hall : ∀ j, j < ops.size → listed.getD j false = true := by
      intro j hj
      have hj' : j < listed.size := by omega
      have hmem : listed[j] ∈ listed.toList := by simp
      rcases Bool.eq_false_or_eq_true listed[j] with h | h
      · simp [hj', h]
      · exfalso
        have : listed[j] ∈ listed.toList.filter (! ·) := List.mem_filter.2 ⟨hmem, by simp [h]⟩
        rw [List.length_eq_zero_iff.1 hcount] at this
        cases this
    have hput : putsL (fun j => listed.getD j false) u 0 ops.toList a0 = allPut u 0 ops.toList a0 :=
      putsL_all _ _ _ _ _ fun j _ h2 => hall j (by simpa using h2)
    refine ⟨?_, ?_⟩
    · cases hr : Region.ready .any ops listed with
      | nil => rfl
      | cons i is =>
        have hi : i ∈ Region.ready .any ops listed := by rw [hr]; exact List.mem_cons_self
        obtain ⟨h0, o, ho, _⟩ := mem_ready.1 hi
        have hlt : i < ops.size := by
          rcases Nat.lt_or_ge i ops.size with h | h
          · exact h
          · simp [Array.getElem?_eq_none h] at ho
        have h1 := hall i hlt
        have hlt' : i < listed.size := by omega
        simp [hlt'] at h0 h1
        rw [h0] at h1; cases h1
    · rw [hput]
      refine hend u l h w hG (allE_of _ _ fun j e he => ?_) (fun j hj => hF j (hall j hj)) (fun j k hj hk hne => hD j k (hall j hj) (hall k hk) hne)
      have hj : j < ops.size := by
        have : j < plan.length := by
          rcases Nat.lt_or_ge j plan.length with h | h
          · exact h
          · simp [List.getElem?_eq_none h] at he
        have hl : ops.toList.length = ops.size := by simp
        omega
      have := hE j e he (hall j hj)
      rw [hput] at this
      simpa using this
  | succ fuel ih =>
    intro listed u l h w hsz hcount hdown hG hE hP hF hD
    have hstep : ∀ i ∈ Region.ready .any ops listed,
        wpOp P ops Q i (wpAny P .any ops Q fuel (listed.setIfInBounds i true)) (putsL (fun j => listed.getD j false) u 0 ops.toList a0) w := by
      intro i hi
      obtain ⟨h0, o, ho, hall⟩ := mem_ready.1 hi
      have hlt : i < ops.size := by
        rcases Nat.lt_or_ge i ops.size with h | h
        · exact h
        · simp [Array.getElem?_eq_none h] at ho
      have hlt' : i < listed.size := by omega
      have hLi : listed.getD i false = false := by simp [hlt'] at h0 ⊢; exact h0
      have hol : ops.toList[i]? = some o := by simpa using ho
      obtain ⟨e, n, he, hn, hOp⟩ := hget i o hol
      rw [Nat.zero_add] at hOp
      have hdepL : ∀ x ∈ dep o, listed.getD x false = true := fun x hx => by
        obtain ⟨ed, h1, h2, rfl⟩ := mem_dep.1 hx
        exact hall ed h1 h2
      -- a slot of what has come holds what came
      have hslot : ∀ k ok t, ops[k]? = some ok → listed.getD k false = true → ok.dst = some t →
          (putsL (fun j => listed.getD j false) u 0 ops.toList a0).eval (.tmp t) = u k := by
        intro k ok t hok1 hkL hok2
        have hlisted : (fun j => listed.getD j false) = fun j => if j = k then true else (listed.setIfInBounds k false).getD j false := by
          funext j
          by_cases hjk : j = k
          · subst hjk; simp [hkL]
          · simp [hjk, Array.getElem?_setIfInBounds_ne (Ne.symm hjk)]
        have hu : u = fun j => if j = k then u k else u j := by funext j; split <;> simp_all
        rw [hlisted]
        rw [hu]
        rw [putsL_step _ 0 k _ huniq (Nat.zero_le _) ok (by simpa using hok1) (by
          have : k < ops.size := by
            rcases Nat.lt_or_ge k ops.size with h | h
            · exact h
            · rw [Array.getElem?_eq_none h] at hok1; cases hok1
          simp [show k < listed.size by omega])]
        rw [hok2]
        refine (eval_put_same ?_).trans (by simp)
        rw [putsL_size]
        exact uniqL_lt huniq ok (List.mem_of_getElem? (by simpa using hok1)) t hok2
      -- what the operation wants to know
      have hfacts : facts plan a0 (putsL (fun j => listed.getD j false) u 0 ops.toList a0) w n := by
        refine facts_of fun x hx => ?_
        have hok' := needsOk2_get _ _ _ hneeds i o n hol hn x hx
        rw [Nat.zero_add] at hok'
        cases x with
        | ini t =>
          simp only [needOk2, List.all_eq_true] at hok'
          refine putsL_eval _ _ _ fun k ok hk hL hdst => ?_
          rw [Nat.zero_add] at hL
          have h1 := hok' (ok, k) (List.mem_iff_getElem?.2 ⟨k, by simp [hk]⟩)
          have hki : k ≠ i := fun h => by rw [h, hLi] at hL; cases hL
          have hmem : i ∈ dep ok := by
            have hki' : (k == i) = false := by simpa using hki
            simp [hki', hdst] at h1
            exact h1
          have := hdown k ok (by simpa using hk) hL i hmem
          rw [hLi] at this; cases this
        | frm k t =>
          simp only [needOk2, Bool.and_eq_true, beq_iff_eq] at hok'
          obtain ⟨hk1, hk2⟩ := hok'
          have hkL : listed.getD k false = true := by
            rw [Bool.or_eq_true] at hk1
            rcases hk1 with hk1 | hk1
            · exact hdepL k (by simpa using hk1)
            · obtain ⟨m, hm, hm2⟩ := List.any_eq_true.1 hk1
              cases hom : ops.toList[m]? with
              | none => rw [hom] at hm2; cases hm2
              | some om =>
                rw [hom] at hm2
                exact hdown m om (by simpa using hom) (hdepL m hm) k (by simpa using hm2)
          obtain ⟨ok, hok1, hok2⟩ := Option.bind_eq_some_iff.1 hk2
          obtain ⟨ek, nk, hek, _, _⟩ := hget k ok hok1
          have hEk := hE k ek hek hkL
          show ∃ l h, (plan.getD k .any).E _ l h _ _
          have hgd : plan.getD k .any = ek := by simp [hek]
          rw [hgd]
          have hv := hslot k ok t (by simpa using hok1) hkL hok2
          rw [hv]
          exact ⟨_, _, hEk⟩
        | til k =>
          simp only [needOk2] at hok'
          cases hok2 : ops.toList[k]? with
          | none => rw [hok2] at hok'; cases hok'
          | some ok =>
            rw [hok2] at hok'
            have hmem : k = i ∨ i ∈ dep ok := by simpa using hok'
            cases hpk : plan[k]? with
            | none => simp [Need.fact, hpk, Ent.any]
            | some ek =>
              have : (plan.getD k .any) = ek := by simp [hpk]
              show (plan.getD k .any).pre w
              rw [this]
              refine hP k ek hpk ?_
              rcases Bool.eq_false_or_eq_true (listed.getD k false) with h1 | h1
              · rcases hmem with hmem | hmem
                · rw [hmem, hLi] at h1; cases h1
                · have := hdown k ok (by simpa using hok2) h1 i hmem
                  rw [hLi] at this; cases this
              · exact h1
        | eff k =>
          have hkd : k ∈ dep o := by simpa [needOk2] using hok'
          have hkL := hdepL k hkd
          cases hpk : plan[k]? with
          | none => exact ⟨undef, 0, 0, by simp [hpk, Ent.any]⟩
          | some ek => exact ⟨u k, l k, h k, by simp only [List.getD_eq_getElem?_getD, hpk, Option.getD_some]; exact hE k ek hpk hkL⟩
      obtain ⟨hw1, hw2⟩ := hOp _ w hG hfacts
      -- behind it
      have hnext : ∀ v w', e.E v w.heap.size w'.heap.size (putsL (fun j => listed.getD j false) u 0 ops.toList a0) w' → Step ops.toList G B0 plan i o (putsL (fun j => listed.getD j false) u 0 ops.toList a0) w w' →
          wpAny P .any ops Q fuel (listed.setIfInBounds i true) ((putsL (fun j => listed.getD j false) u 0 ops.toList a0).put o.dst v) w' := by
        intro v w' hev hst
        have hL' : (fun j => (listed.setIfInBounds i true).getD j false) = fun j => if j = i then true else listed.getD j false := by
          funext j
          by_cases hji : j = i
          · subst hji; simp [hlt']
          · simp [hji, Array.getElem?_setIfInBounds_ne (Ne.symm hji)]
        have hput := putsL_step (L := fun j => listed.getD j false) (u := u) (v := v) ops.toList 0 i a0 huniq (Nat.zero_le _) o (by simpa using hol) hLi
        rw [← hput, ← hL']
        -- what the step leaves
        have hstep2 : w.heap.size ≤ w'.heap.size ∧ G w' ∧ (∀ j ej, plan[j]? = some ej → j ≠ i → ej.pre w → ej.pre w') ∧ ∀ j ej, plan[j]? = some ej → j ≠ i → listed.getD j false = true → ej.E (u j) (l j) (h j) (putsL (fun j => listed.getD j false) u 0 ops.toList a0) w' := by
          rcases hst with hx | hx
          · exact ⟨hx.size, hGE _ _ hx hG, fun j ej _ _ hp => ej.hpext _ _ hx hp, fun j ej hej _ hLj => ej.hext _ _ _ _ _ _ (hF j hLj).1 hx (hE j ej hej hLj)⟩
          · have hknow : ∀ k ∈ dep o, ∀ t, (ops.toList[k]?).bind (·.dst) = some t → (plan.getD k .any).E ((putsL (fun j => listed.getD j false) u 0 ops.toList a0).eval (.tmp t)) (l k) (h k) (putsL (fun j => listed.getD j false) u 0 ops.toList a0) w ∧ h k ≤ w.heap.size ∧ B0 ≤ l k := by
              intro k hk t ht
              obtain ⟨ok, hok1, hok2⟩ := Option.bind_eq_some_iff.1 ht
              obtain ⟨ek, nk, hek, _, _⟩ := hget k ok hok1
              rw [hslot k ok t (by simpa using hok1) (hdepL k hk) hok2]
              have hgd : plan.getD k .any = ek := by simp [hek]
              rw [hgd]
              exact ⟨hE k ek hek (hdepL k hk), hF k (hdepL k hk)⟩
            obtain ⟨s1, s2, s4, s3⟩ := hx l h hknow (fun k hk k' hk' hne => hD k k' (hdepL k hk) (hdepL k' hk') hne)
            refine ⟨s1, s2, s4, fun j ej hej hji hLj => ?_⟩
            have hE0 := hE j ej hej hLj
            cases hs : ej.still with
            | true => exact ej.hstill hs _ _ _ _ _ _ hE0
            | false =>
              refine s3 j ej hej hji hs _ _ _ (hF j hLj).2 (hF j hLj).1 (fun k hk => ⟨fun hkj => hD k j (hdepL k hk) hLj hkj, fun hkj => by rw [hkj]; exact ⟨rfl, rfl⟩⟩) hE0
        obtain ⟨hsize, hG', hP', hE'⟩ := hstep2
        refine ih (listed.setIfInBounds i true) (fun j => if j = i then v else u j) (fun j => if j = i then w.heap.size else l j) (fun j => if j = i then w'.heap.size else h j) w' (by simpa using hsz) ?_ ?_ hG' ?_ ?_ ?_ ?_
        · -- one fewer is left
          have hperm : ∀ (l : List Bool) (i : Nat) (hi : i < l.length), l[i] = false → ((l.set i true).filter (! ·)).length + 1 = (l.filter (! ·)).length := by
            intro l
            induction l with
            | nil => intro i hi; simp at hi
            | cons b l ihl =>
              intro i hi hb
              cases i with
              | zero => simp at hb; subst hb; simp
              | succ i =>
                simp only [List.set_cons_succ, List.filter_cons]
                have := ihl i (by simpa using hi) (by simpa using hb)
                cases b <;> simp <;> omega
          have := hperm listed.toList i (by simpa using hlt') (by simp [hlt'] at hLi; simpa using hLi)
          rw [Array.toList_setIfInBounds]
          omega
        · intro j oj hoj hLj x hx
          by_cases hxi : x = i
          · subst hxi; simp [hlt']
          · rw [show (listed.setIfInBounds i true).getD x false = listed.getD x false from by simp [Array.getElem?_setIfInBounds_ne (Ne.symm hxi)]]
            by_cases hji : j = i
            · subst hji
              rw [ho] at hoj; cases hoj
              exact hdepL x hx
            · exact hdown j oj hoj (by simpa [Array.getElem?_setIfInBounds_ne (Ne.symm hji)] using hLj) x hx
        · intro j ej hej hLj
          rw [hL', hput]
          by_cases hji : j = i
          · subst hji
            rw [he] at hej; cases hej
            simp only [if_true]
            refine e.hsl _ _ _ _ _ _ (fun t ht => ?_) hev
            refine (Act.eval_put fun d hd ht' => ?_).symm
            cases ht'
            have hself := slotsL_get _ _ hslots j o e hol he j o hol t hd ht
            have := backL_get _ _ hback j o hol j hself
            omega
          · simp only [hji, if_false]
            have hLj' : listed.getD j false = true := by simpa [Array.getElem?_setIfInBounds_ne (Ne.symm hji)] using hLj
            refine ej.hsl _ _ _ _ _ _ (fun t ht => ?_) (hE' j ej hej hji hLj')
            refine (Act.eval_put fun d hd ht' => ?_).symm
            cases ht'
            have hoj : ∃ oj, ops[j]? = some oj := by
              have hl : ops.toList.length = ops.size := by simp
              have : j < plan.length := by
                rcases Nat.lt_or_ge j plan.length with h | h
                · exact h
                · simp [List.getElem?_eq_none h] at hej
              exact ⟨ops[j]'(by omega), by simp [show j < ops.size by omega]⟩
            obtain ⟨oj, hoj⟩ := hoj
            have hmem := slotsL_get _ _ hslots j oj ej (by simpa using hoj) hej i o hol t hd ht
            have := hdown j oj hoj hLj' i hmem
            rw [hLi] at this; cases this
        · intro j ej hej hLj
          have hji : j ≠ i := fun hji => by subst hji; simp [hlt'] at hLj
          exact hP' j ej hej hji (hP j ej hej (by simpa [Array.getElem?_setIfInBounds_ne (Ne.symm hji)] using hLj))
        · intro j hLj
          by_cases hji : j = i
          · subst hji
            simp only [if_true]
            exact ⟨Nat.le_refl _, hGB w hG⟩
          · have hLj' : listed.getD j false = true := by simpa [Array.getElem?_setIfInBounds_ne (Ne.symm hji)] using hLj
            simp only [hji, if_false]
            exact ⟨Nat.le_trans (hF j hLj').1 hsize, (hF j hLj').2⟩
        · intro j k hLj hLk hjk
          have back : ∀ j, j ≠ i → (listed.setIfInBounds i true).getD j false = true → listed.getD j false = true := fun j hji h => by
            simpa [Array.getElem?_setIfInBounds_ne (Ne.symm hji)] using h
          by_cases hji : j = i
          · subst hji
            have hki : k ≠ j := Ne.symm hjk
            simp only [if_true, hki, if_false]
            exact .inr (hF k (back k hki hLk)).1
          · by_cases hki : k = i
            · subst hki
              simp only [if_true, hji, if_false]
              exact .inl (hF j (back j hji hLj)).1
            · simp only [hji, hki, if_false]
              exact hD j k (back j hji hLj) (back k hki hLk) hjk
      unfold wpOp
      rw [ho]
      dsimp only
      cases hwant : Region.wanted o (yielded ops (putsL (fun j => listed.getD j false) u 0 ops.toList a0).tmps) with
      | true =>
        rw [if_pos rfl]
        refine .inl (Oper.wp_mono ?_ (hw1 hwant))
        rintro a' w' ⟨v, rfl, hev, hst⟩
        exact hnext v w' hev hst
      | false =>
        rw [if_neg (by simp)]
        exact hnext undef w (hw2 hwant) (.inl (Ext.refl w))
    refine ⟨fun hnil => ?_, hstep⟩
    -- something may always come up
    exfalso
    have hex : ∃ j, j < listed.size ∧ listed.getD j true = false := by
      have : (listed.toList.filter (! ·)) ≠ [] := fun h => by rw [h] at hcount; simp at hcount
      obtain ⟨b, hb⟩ := List.exists_mem_of_ne_nil _ this
      obtain ⟨hb1, hb2⟩ := List.mem_filter.1 hb
      obtain ⟨j, hj, hjb⟩ := List.mem_iff_getElem.1 hb1
      have hj' : j < listed.size := by simpa using hj
      refine ⟨j, hj', ?_⟩
      have : listed[j] = false := by
        rw [show listed[j] = b from by simpa using hjb]; simpa using hb2
      simp [hj', this]
    have hleast : ∀ m j, j ≤ m → j < listed.size → listed.getD j true = false → False := by
      intro m
      induction m with
      | zero =>
        intro j hj hlt h0
        have hj0 : j = 0 := by omega
        subst hj0
        have : (0 : Nat) ∈ Region.ready .any ops listed := by
          rw [mem_ready]
          refine ⟨h0, ops[0], by simp [show 0 < ops.size by omega], fun ed h1 h2 => ?_⟩
          exfalso
          have := backL_get _ _ hback 0 ops[0] (by simp [show 0 < ops.size by omega]) ed.on (mem_dep.2 ⟨ed, h1, h2, rfl⟩)
          omega
        rw [hnil] at this; cases this
      | succ m ihm =>
        intro j hj hlt h0
        have : j ∈ Region.ready .any ops listed := by
          rw [mem_ready]
          refine ⟨h0, ops[j], by simp [show j < ops.size by omega], fun ed h1 h2 => ?_⟩
          have hlt2 := backL_get _ _ hback j ops[j] (by simp [show j < ops.size by omega]) ed.on (mem_dep.2 ⟨ed, h1, h2, rfl⟩)
          rcases Bool.eq_false_or_eq_true (listed.getD ed.on false) with h | h
          · exact h
          · exfalso
            refine ihm ed.on (by omega) (by omega) ?_
            have hlt3 : ed.on < listed.size := by omega
            simp [hlt3] at h ⊢; exact h
        rw [hnil] at this; cases this
    obtain ⟨j, hj, h0⟩ := hex
    exact hleast j j (Nat.le_refl _) hj h0

/-- **a region that draws its order, each operation shown once** -/
theorem wp_region_J2 {id : Nat} {w0 : World} (hm : P.follows .mixedOrders = true)
    (hchk : (backL 0 ops.toList && uniqL a0.tmps.size ops.toList && needsOk2 ops.toList 0 ops.toList ns) = true) (hslots : slotsL ops.toList ops.toList plan = true)
    (hpre : ∀ e ∈ plan, e.pre w0.drew) (hG : G w0.drew) (hGE : ∀ w w', Ext w w' → G w → G w') (hGB : ∀ w, G w → B0 ≤ w.heap.size)
    (hok : opsOk P ops Q G B0 plan a0 0 ops.toList plan ns)
    (hend : ∀ u l h w, G w → allE u l h (allPut u 0 ops.toList a0) w 0 plan → (∀ j, j < ops.size → h j ≤ w.heap.size ∧ B0 ≤ l j) → (∀ j k, j < ops.size → k < ops.size → j ≠ k → h j ≤ l k ∨ h k ≤ l j) → Q .normal (allPut u 0 ops.toList a0) w) :
    (Code.region id ops true).wp P Q a0 w0 := by
  simp only [Bool.and_eq_true] at hchk
  refine wp_region_any hm ?_
  have hnone : putsL (fun j => (Array.replicate ops.size false).getD j false) (fun _ => undef) 0 ops.toList a0 = a0 := by
    have : (fun j => (Array.replicate ops.size false).getD j false) = fun _ => false := by
      funext j
      by_cases h : j < ops.size <;> simp [h]
    rw [this, putsL_none]
  have hno : ∀ j, (Array.replicate ops.size false).getD j false = false := fun j => by
    by_cases h : j < ops.size <;> simp [h]
  have := wpAny_J2 (P := P) (Q := Q) hchk.1.1 hchk.1.2 hslots hchk.2 hGE hGB hok hend ops.size (Array.replicate ops.size false) (fun _ => undef) (fun _ => 0) (fun _ => 0) w0.drew
    (by simp) (by simp) (fun j o _ h => by rw [hno] at h; cases h) hG (fun j e _ h => by rw [hno] at h; cases h) (fun j e he _ => hpre e (List.mem_of_getElem? he)) (fun j h => by rw [hno] at h; cases h)
    (fun j k h => by rw [hno] at h; cases h)
  rw [hnone] at this
  exact this
end

/-- **the rule, with the world as it lay before, but for the blocks X** -/
theorem wp_region_T {P : Program} {ops : Array Oper} {Q : Exit → Act → World → Prop} {a0 : Act} {id : Nat} {w0 : World} (X : List Nat) (plan : List Ent) (ns : List (List Need)) (hm : P.follows .mixedOrders = true)
    (hchk : (backL 0 ops.toList && uniqL a0.tmps.size ops.toList && needsOk2 ops.toList 0 ops.toList ns) = true) (hslots : slotsL ops.toList ops.toList plan = true)
    (hpre : ∀ e ∈ plan, e.pre w0.drew)
    (hok : opsOk P ops Q (Keep X w0) w0.heap.size plan a0 0 ops.toList plan ns)
    (hend : ∀ u l h w, Keep X w0 w → allE u l h (allPut u 0 ops.toList a0) w 0 plan → (∀ j, j < ops.size → h j ≤ w.heap.size ∧ w0.heap.size ≤ l j) →
      (∀ j k, j < ops.size → k < ops.size → j ≠ k → h j ≤ l k ∨ h k ≤ l j) → Q .normal (allPut u 0 ops.toList a0) w) :
    (Code.region id ops true).wp P Q a0 w0 :=
  wp_region_J2 (G := Keep X w0) (B0 := w0.heap.size) hm hchk hslots hpre (Keep.drew (Keep.refl _ _)) (fun _ _ e h => Keep.ext e h) (fun _ h => h.size) hok hend

end JR
set_option linter.unusedSimpArgs false
set_option linter.unusedVariables false
/-! Values that only a slot knows: within a region that draws its order. -/
namespace JR
open Go Go.RowKit
section
variable {P : Program} {ops : Array Oper} {Q : Exit → Act → World → Prop} {G : World → Prop} {B0 : Nat} {plan : List Ent} {a0 : Act} {i : Nat} {o : Oper} {ns : List Need}
end
end JR
set_option linter.unusedSimpArgs false
set_option linter.unusedVariables false
/-! A region that draws its order and ends in a call that changes what was there; what it leaves is known by the blocks it made. -/
namespace JR
open Go Go.RowKit
/-- what the last call leaves: R of the blocks that were there before the region and of those that the call made -/
def Ent.fin (w0 : World) (R : Nat → Nat → World → Prop) (hR : ∀ l h w w', w0.heap.size ≤ w.heap.size → h ≤ w.heap.size → (∀ k, (k < w0.heap.size ∨ (l ≤ k ∧ k < h)) → w'.heap[k]? = w.heap[k]?) → R l h w → R l h w') : Ent where
  E := fun _ l h _ w => w0.heap.size ≤ w.heap.size ∧ h ≤ w.heap.size ∧ R l h w
  sl := []
  old := List.range w0.heap.size
  still := false
  news := false
  pre := fun w => Below w0.heap.size w0 w
  hsl := fun _ _ _ _ _ _ _ h => h
  hext := fun v l h a w w' hs e ⟨h1, h2, h3⟩ => ⟨Nat.le_trans h1 e.size, Nat.le_trans h2 e.size, hR l h w w' h1 h2 (fun k hk => e.block k (by omega)) h3⟩
  hstill := fun h => Bool.noConfusion h
  hnews := fun h => Bool.noConfusion h
  hrow := fun v l h a w b cells hb _ ho ⟨h1, h2, h3⟩ => ⟨by rw [setRow_size]; exact h1, by rw [setRow_size]; exact h2, hR l h w _ h1 h2 (fun k hk => setRow_other (by
    intro he
    subst he
    rcases hk with hk | hk
    · exact ho (by simpa using hk)
    · omega)) h3⟩
  hpext := fun w w' e h => h.trans (e.mono h.size)
  hprow := fun w b cells ho h => h.trans ⟨rfl, rfl, rfl, by rw [setRow_size]; exact Nat.le_refl _, fun k hk => setRow_other (by intro he; subst he; exact ho (by simpa using hk))⟩
/-- what is known of the others survives the call -/
def stillL2 (w0 : World) (i : Nat) : Nat → List Ent → Prop
  | _, [] => True
  | k, e :: es => (k = i ∨ ((e.still = true ∨ ∀ v l h a w w', w0.heap.size ≤ l → h ≤ w.heap.size → (∀ k, w0.heap.size ≤ k → k < w.heap.size → w'.heap[k]? = w.heap[k]?) → e.E v l h a w → e.E v l h a w') ∧ ∀ w w', e.pre w → e.pre w')) ∧ stillL2 w0 i (k + 1) es
theorem stillL2_get {w0 : World} {i : Nat} : ∀ (es : List Ent) (k : Nat), stillL2 w0 i k es → ∀ (j : Nat) (e : Ent), es[j]? = some e → k + j ≠ i → (e.still = true ∨ ∀ v l h a w w', w0.heap.size ≤ l → h ≤ w.heap.size → (∀ k, w0.heap.size ≤ k → k < w.heap.size → w'.heap[k]? = w.heap[k]?) → e.E v l h a w → e.E v l h a w') ∧ ∀ w w', e.pre w → e.pre w' := by
  intro es
  induction es with
  | nil => intro k _ j e h; simp at h
  | cons x es ih =>
    intro k h j e he hj
    cases j with
    | zero => simp at he; subst he; exact h.1.elim (fun h => absurd h (by omega)) id
    | succ j => exact ih (k + 1) h.2 j e (by simpa using he) (by omega)
theorem still_val {w0 : World} (x : Value) : ((Ent.val x).still = true ∨ ∀ v l h a w w', w0.heap.size ≤ l → h ≤ w.heap.size → (∀ k, w0.heap.size ≤ k → k < w.heap.size → w'.heap[k]? = w.heap[k]?) → (Ent.val x).E v l h a w → (Ent.val x).E v l h a w') ∧ ∀ w w', (Ent.val x).pre w → (Ent.val x).pre w' := ⟨.inl rfl, fun _ _ h => h⟩
section
variable {P : Program} {ops : Array Oper} {Q : Exit → Act → World → Prop} {plan : List Ent} {a0 : Act} {i : Nat} {o : Oper} {ns : List Need}
theorem OpOk.fin {w0 : World} {X : List Nat} {R : Nat → Nat → World → Prop} {hR} (hg : o.guard = none)
    (hst : stillL2 w0 i 0 plan) (htil : ∀ a w, facts plan a0 a w ns → Below w0.heap.size w0 w)
    (h : ∀ a w, Below w0.heap.size w0 w → facts plan a0 a w ns → ∃ f args, (execOp a.eval o).run P w = .ok (.enter f args) w ∧
      Calls P f args w fun x w' => ∃ v, x = .returned v ∧ w.heap.size ≤ w'.heap.size ∧ Keep X w0 w' ∧ (∀ k, w0.heap.size ≤ k → k < w.heap.size → w'.heap[k]? = w.heap[k]?) ∧ R w.heap.size w'.heap.size w') :
    OpOk P ops Q (Keep X w0) w0.heap.size plan a0 i o (.fin w0 R hR) ns := by
  intro a w hG hf
  refine ⟨fun _ => ?_, fun h => by simp [Region.wanted, hg] at h⟩
  have hB := htil a w hf
  obtain ⟨f, args, h1, h2⟩ := h a w hB hf
  unfold Oper.wp
  rw [h1, Oper.upon_enter]
  refine h2.mono fun x w' hx => ?_
  obtain ⟨v, rfl, hs, hK, hN, hD⟩ := hx
  refine ⟨v, rfl, ⟨hK.size, Nat.le_refl _, hD⟩, .inr fun l h _ _ => ⟨hs, hK, fun j e he hj hp => ?_, fun j e he hj hs' v lj hj' hl hh _ hE => ?_⟩⟩
  · exact (stillL2_get plan 0 hst j e he (by omega)).2 w w' hp
  · rcases (stillL2_get plan 0 hst j e he (by omega)).1 with h | h
    · rw [h] at hs'; cases hs'
    · exact h v lj hj' a w w' hl hh hN hE
end
end JR
