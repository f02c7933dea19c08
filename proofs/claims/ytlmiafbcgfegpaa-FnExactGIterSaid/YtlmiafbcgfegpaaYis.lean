/-
  The thin package over the tree of items. Conditions: none.
-/
import Derived.Test.YtlmiafbcgfegpaaPgR
import Derived.Test.YtlmiafbcgfegpaaYim
import Derived.Test.YtlmiafbcgfegpaaYja
import Derived.Test.YtlmiafbcgfegpaaTk
set_option linter.unusedVariables false
set_option linter.unusedSimpArgs false
set_option linter.unusedSectionVars false
set_option maxRecDepth 100000
namespace Go.Proofs.Ytlmiafbcgfegpaa
open Go
section
variable {h : H}
section
variable {ls : Value} {o : List Int}
end
end
end Go.Proofs.Ytlmiafbcgfegpaa
