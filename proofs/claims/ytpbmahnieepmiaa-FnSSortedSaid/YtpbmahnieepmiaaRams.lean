/-
  The map ms: the greatest item; a key sought. Conditions: none.
-/
import Derived.Test.YtpbmahnieepmiaaSdms
set_option linter.unusedVariables false
set_option linter.unusedSimpArgs false
set_option linter.unusedSectionVars false
set_option maxRecDepth 100000
namespace Go.Proofs.Ytpbmahnieepmiaa.MS
open Go Go.Proofs.Ytpbmahnieepmiaa
section
variable {h : H}
end
end Go.Proofs.Ytpbmahnieepmiaa.MS
