/-
  The map ms: the items handed on from a key down. Conditions: none.
-/
import Derived.Test.YtpbmahnieepmiaaPgR
import Derived.Test.YtpbmahnieepmiaaRvms
set_option linter.unusedVariables false
set_option linter.unusedSimpArgs false
set_option linter.unusedSectionVars false
set_option maxRecDepth 100000
namespace Go.Proofs.Ytpbmahnieepmiaa.MS
open Go Go.Proofs.Ytpbmahnieepmiaa
section
variable {h : H}
end
end Go.Proofs.Ytpbmahnieepmiaa.MS
