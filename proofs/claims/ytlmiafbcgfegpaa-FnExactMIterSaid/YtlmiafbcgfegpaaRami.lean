/-
  The map mi: the greatest item; a key sought. Conditions: none.
-/
import Derived.Test.YtlmiafbcgfegpaaSdmi
set_option linter.unusedVariables false
set_option linter.unusedSimpArgs false
set_option linter.unusedSectionVars false
set_option maxRecDepth 100000
namespace Go.Proofs.Ytlmiafbcgfegpaa.MI
open Go Go.Proofs.Ytlmiafbcgfegpaa
section
variable {h : H}
end
end Go.Proofs.Ytlmiafbcgfegpaa.MI
