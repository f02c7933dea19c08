/-
  The map of numbers: all values. Conditions: none.
-/
import Derived.Test.YtlmiafbcgfegpaaPgR
import Derived.Test.YtlmiafbcgfegpaaYnc
import Derived.Test.YtlmiafbcgfegpaaVa
import Derived.Test.YtlmiafbcgfegpaaBe
set_option linter.unusedVariables false
set_option linter.unusedSimpArgs false
set_option linter.unusedSectionVars false
set_option maxRecDepth 100000
namespace Go.Proofs.Ytlmiafbcgfegpaa.TG
open Go Go.Proofs.Ytlmiafbcgfegpaa
section
variable {P : Program} {Q : Ex → List AV → H → Prop} {h h0 : H} {G0 : PA → Prop} {l : List Ck}
end
section
variable {ls : Value} {oc : Ck} {o : List Int} {hp : Option PA} {h : H}
end
end Go.Proofs.Ytlmiafbcgfegpaa.TG
