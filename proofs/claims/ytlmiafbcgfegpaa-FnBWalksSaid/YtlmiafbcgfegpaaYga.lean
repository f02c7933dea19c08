/-
  The tree of items: an item sought. Conditions: none.
-/
import Derived.Test.YtlmiafbcgfegpaaPgA
import Derived.Test.YtlmiafbcgfegpaaYra
import Derived.Test.YtlmiafbcgfegpaaYc
set_option linter.unusedVariables false
set_option linter.unusedSimpArgs false
set_option linter.unusedSectionVars false
set_option maxRecDepth 100000
namespace Go.Proofs.Ytlmiafbcgfegpaa.TG
open Go Go.Proofs.Ytlmiafbcgfegpaa
section
variable {ls : Value} {oc : Ck} {o : List Int} {hp : Option PA} {h h0 : H} {G0 : PA → Prop} {r : List Ck}
end
end Go.Proofs.Ytlmiafbcgfegpaa.TG
