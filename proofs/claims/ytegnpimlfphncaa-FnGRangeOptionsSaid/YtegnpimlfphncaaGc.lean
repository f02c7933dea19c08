/-
  'slices.Equal' at one list that lies in two places. Conditions: none.
-/
import Derived.Test.YtegnpimlfphncaaVa
set_option linter.unusedVariables false
set_option linter.unusedSimpArgs false
set_option linter.unusedSectionVars false
set_option maxRecDepth 100000
namespace Go.Proofs.Ytegnpimlfphncaa
open Go
section
variable {P : Program} {Q : Ex → List AV → H → Prop} {h : H}
end
end Go.Proofs.Ytegnpimlfphncaa
