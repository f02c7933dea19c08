/-
  The tree of interfaces: the items handed on from a key down. Conditions: none.
-/
import Derived.Test.YtlmiafbcgfegpaaZrv
set_option linter.unusedVariables false
set_option linter.unusedSimpArgs false
set_option linter.unusedSectionVars false
set_option maxRecDepth 100000
namespace Go.Proofs.Ytlmiafbcgfegpaa.TB
open Go Go.Proofs.Ytlmiafbcgfegpaa
section
variable {ls : Value} {oc : Ck} {o : List Int} {hp : Option PA} {h : H}
end
end Go.Proofs.Ytlmiafbcgfegpaa.TB
