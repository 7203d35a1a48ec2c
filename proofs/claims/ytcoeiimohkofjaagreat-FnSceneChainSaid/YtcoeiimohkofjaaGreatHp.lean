import Derived.Test.YtcoeiimohkofjaaGreatQH
import Derived.Test.YtcoeiimohkofjaaGreatGc
import Derived.Test.YtcoeiimohkofjaaGreatQG
set_option linter.unusedSimpArgs false
set_option linter.unusedVariables false
/-! FnTurnPoint: the plain law of polygons with holes. -/
namespace Go.Proofs.YtcoeiimohkofjaaGreat
open Go.RowKit PF JR
theorem ringHas_al {l : List (Int × Int)} {p : Int × Int} (al : Bool) (h3 : 3 ≤ l.length) : ringHas l p al = ((aon l p l.length && al) || (!aon l p l.length && xrs l p l.length)) := by
  obtain ⟨e1, e2⟩ := ring_all (p := p) h3
  unfold ringHas ppB tooS
  rw [if_neg (by simp; omega), e1, e2]
  cases h : inB (box l) p with
  | true => simp
  | false =>
    obtain ⟨g1, g2⟩ := out_box (by omega) h
    rw [g1, g2]; simp
theorem ringHas_map {f : Int × Int → Int × Int} (hf : PF.Good f) {l : List (Int × Int)} {p : Int × Int} (al : Bool) (h3 : 3 ≤ l.length) : ringHas (l.map f) (f p) al = ringHas l p al := by
  rw [ringHas_al al h3, ringHas_al al (by simpa using h3), List.length_map]
  obtain ⟨h1, h2⟩ := hf l p (by omega)
  rw [h1]
  cases h : aon l p l.length with
  | true => simp
  | false => rw [h2 h]
theorem orN_congr {f g : Nat → Bool} : ∀ {n : Nat}, (∀ k, k < n → f k = g k) → orN f n = orN g n := by
  intro n
  induction n with
  | zero => intro _; rfl
  | succ n ih => intro h; rw [orN, orN, ih (fun k hk => h k (by omega)), h n (by omega)]
theorem polHas_map {f : Int × Int → Int × Int} (hf : PF.Good f) {l : List (Int × Int)} {H : List (List (Int × Int))} {p : Int × Int} (h3 : 3 ≤ l.length) (hH : ∀ x ∈ H, 3 ≤ x.length) : polHas (l.map f) (H.map fun x => x.map f) (f p) = polHas l H p := by
  unfold polHas
  rw [ringHas_map hf true h3, List.length_map]
  refine congrArg (fun b => ringHas l p true && !b) (orN_congr fun k hk => ?_)
  have e : (H.map fun x => x.map f).getD k [] = (H.getD k []).map f := by
    simp [List.getD_eq_getElem?_getD, List.getElem?_eq_getElem hk]
  rw [e]
  refine ringHas_map hf false (hH _ ?_)
  rw [List.getD_eq_getElem?_getD, List.getElem?_eq_getElem hk]
  exact List.getElem_mem hk
end Go.Proofs.YtcoeiimohkofjaaGreat
