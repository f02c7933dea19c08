/-
  Sorted lists and trees as lists: what is handed on from the greatest to the least, without a program. Conditions: none.
-/
import Derived.Test.YtpbmahnieepmiaaCb
set_option linter.unusedVariables false
set_option linter.unusedSimpArgs false
set_option linter.unusedSectionVars false
set_option maxRecDepth 100000
namespace Go.Proofs.Ytpbmahnieepmiaa
open Go
section
variable {I : Type} {lt : I → I → Bool}
theorem rev_take {xs : List I} {j : Nat} {x : I} (h : xs[j]? = some x) : (xs.take (j + 1)).reverse = x :: (xs.take j).reverse := by
  obtain ⟨h1, h2⟩ := List.getElem?_eq_some_iff.1 h
  rw [List.take_succ_eq_append_getElem h1, h2]; simp
end
end Go.Proofs.Ytpbmahnieepmiaa
