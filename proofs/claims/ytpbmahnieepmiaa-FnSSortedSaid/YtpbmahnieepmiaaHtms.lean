/-
  The map ms: Height. Conditions: none.
-/
import Derived.Test.YtpbmahnieepmiaaPgR
import Derived.Test.YtpbmahnieepmiaaSdms
set_option linter.unusedVariables false
set_option linter.unusedSimpArgs false
set_option linter.unusedSectionVars false
set_option maxRecDepth 100000
namespace Go.Proofs.Ytpbmahnieepmiaa.MS
open Go Go.Proofs.Ytpbmahnieepmiaa
section
variable {h h0 : H} {G0 : PA → Prop}
end
end Go.Proofs.Ytpbmahnieepmiaa.MS
