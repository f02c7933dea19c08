/-
  The law FnExactSLen. Conditions: none.
-/
import Derived.Test.YtpbmahnieepmiaaSst
set_option linter.unusedVariables false
set_option linter.unusedSimpArgs false
set_option linter.unusedSectionVars false
set_option maxRecDepth 100000
namespace Go.Proofs.Ytpbmahnieepmiaa
open Go
section
variable {h : H}
end
end Go.Proofs.Ytpbmahnieepmiaa
