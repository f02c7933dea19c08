/-
  Sorted lists and trees as lists: what is handed on from the greatest to the least, without a program. Conditions: none.
-/
import Derived.Test.YtlmiafbcgfegpaaCb
set_option linter.unusedVariables false
set_option linter.unusedSimpArgs false
set_option linter.unusedSectionVars false
set_option maxRecDepth 100000
namespace Go.Proofs.Ytlmiafbcgfegpaa
open Go
section
variable {I : Type} {lt : I → I → Bool}
end
end Go.Proofs.Ytlmiafbcgfegpaa
