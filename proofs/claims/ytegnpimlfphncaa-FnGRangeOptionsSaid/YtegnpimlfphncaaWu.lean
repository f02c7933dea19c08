/-
  Small numbers in cells; the end of a way through a tree. Conditions: none.
-/
import Derived.Test.YtegnpimlfphncaaWd
import Derived.Test.YtegnpimlfphncaaCb
set_option linter.unusedVariables false
set_option linter.unusedSimpArgs false
set_option linter.unusedSectionVars false
set_option maxRecDepth 100000
namespace Go.Proofs.Ytegnpimlfphncaa
open Go
section
variable {P : Program} {Q : Ex → List AV → H → Prop} {h : H}
end
section
variable {I : Type}
end
