import Derived.Test.YtbfanhdofopnnaaGreatIxE
import Derived.Test.YtbfanhdofopnnaaGreatIxB
import Derived.Test.YtbfanhdofopnnaaGreatIxC
set_option linter.unusedSimpArgs false
set_option linter.unusedVariables false
namespace Go.Proofs.YtbfanhdofopnnaaGreat
open Go.RowKit PF JR

theorem six_c {ax ay bx bY cx cy dx dy : Nat} {Ax Ay Bx By Cx Cy Dx Dy : Int} (hax : Rep ax Ax) (hay : Rep ay Ay) (hbx : Rep bx Bx) (hby : Rep bY By) (hcx : Rep cx Cx) (hcy : Rep cy Cy) (hdx : Rep dx Dx) (hdy : Rep dy Dy)
    (b1 : -12288 ≤ Ax ∧ Ax ≤ 12288 ∧ -12288 ≤ Ay ∧ Ay ≤ 12288 ∧ -12288 ≤ Bx ∧ Bx ≤ 12288 ∧ -12288 ≤ By ∧ By ≤ 12288) (b2 : -12288 ≤ Cx ∧ Cx ≤ 12288 ∧ -12288 ≤ Cy ∧ Cy ≤ 12288 ∧ -12288 ≤ Dx ∧ Dx ≤ 12288 ∧ -12288 ≤ Dy ∧ Dy ≤ 12288) (w : World) :
    Calls Tryz.prog 60 #[.agg #[fl ax, fl ay, fl bx, fl bY], .agg #[fl cx, fl cy, fl dx, fl dy]] w (SisX Ax Ay Bx By Cx Cy Dx Dy w) := by
  by_cases hy : ((Ay < Cy ∧ Ay < Dy ∧ By < Cy ∧ By < Dy) ∨ (Cy < Ay ∧ Cy < By ∧ Dy < Ay ∧ Dy < By))
  · exact six_y hax hay hbx hby hcx hcy hdx hdy b1 b2 hy w
  by_cases hx : ((Ax < Cx ∧ Ax < Dx ∧ Bx < Cx ∧ Bx < Dx) ∨ (Cx < Ax ∧ Cx < Bx ∧ Dx < Ax ∧ Dx < Bx))
  · exact six_x hax hay hbx hby hcx hcy hdx hdy b1 b2 hy hx w
  by_cases hE : ((Ax = Cx ∧ Ay = Cy) ∨ (Ax = Dx ∧ Ay = Dy) ∨ (Bx = Cx ∧ By = Cy) ∨ (Bx = Dx ∧ By = Dy))
  · exact six_e hax hay hbx hby hcx hcy hdx hdy b1 b2 hy hx hE w
  by_cases h1 : side Ax Ay Bx By Cx Cy = 0
  · exact six_col hax hay hbx hby hcx hcy hdx hdy b1 b2 hy hx hE h1 w
  · exact six_gen hax hay hbx hby hcx hcy hdx hdy b1 b2 hy hx hE h1 w
end Go.Proofs.YtbfanhdofopnnaaGreat
