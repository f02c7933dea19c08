/-
  Plain laws of the reference's sorted lists. Conditions: none.
-/
import Derived.Test.YtegnpimlfphncaaSp
set_option linter.unusedVariables false
set_option linter.unusedSimpArgs false
set_option linter.unusedSectionVars false
set_option maxRecDepth 100000
namespace Go.Proofs.Ytegnpimlfphncaa
open Go
section
variable {I : Type} {lt : I → I → Bool}
end
end Go.Proofs.Ytegnpimlfphncaa
