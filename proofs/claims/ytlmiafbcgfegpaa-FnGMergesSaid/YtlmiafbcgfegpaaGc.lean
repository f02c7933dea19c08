/-
  'slices.Equal' at one list that lies in two places. Conditions: none.
-/
import Derived.Test.YtlmiafbcgfegpaaVa
set_option linter.unusedVariables false
set_option linter.unusedSimpArgs false
set_option linter.unusedSectionVars false
set_option maxRecDepth 100000
namespace Go.Proofs.Ytlmiafbcgfegpaa
open Go
section
variable {P : Program} {Q : Ex → List AV → H → Prop} {h : H}
theorem w_fnd {p : PA} {xs : List (Option IV)} (hr : rds h p (LF.flat xs)) {i : Nat} {x : Option IV} (hx : xs[i]? = some x) {m : Int → Int → Bool → M}
    (hw : wp P (m (fT x).1 (fT x).2.1 (fT x).2.2.1) Q h) : wp P (.load (p.1, p.2 + mulN i 3) (.int .i64) fun k => .load (p.1, p.2 + mulN i 3 + 1) (.int .i64) fun v => .load (p.1, p.2 + mulN i 3 + 2) .bool fun b => m k v b) Q h := by
  have h0 := hr (i * 3 + 0) _ (LF.flat_get (j := 0) hx rfl)
  have h1 := hr (i * 3 + 1) _ (LF.flat_get (j := 1) hx rfl)
  have h2 := hr (i * 3 + 2) _ (LF.flat_get (j := 2) hx rfl)
  rw [mulN_eq]
  exact w_int _ (by simpa [Nat.add_assoc] using h0) (w_int _ (by simpa [Nat.add_assoc] using h1) (w_bool _ (by simpa [Nat.add_assoc] using h2) hw))
end
end Go.Proofs.Ytlmiafbcgfegpaa
