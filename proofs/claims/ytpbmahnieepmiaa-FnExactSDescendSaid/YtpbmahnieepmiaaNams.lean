/-
  The map ms: the items handed on in order, all of them or from a key on. Conditions: none.
-/
import Derived.Test.YtpbmahnieepmiaaPgR
import Derived.Test.YtpbmahnieepmiaaRams
import Derived.Test.YtpbmahnieepmiaaCb
set_option linter.unusedVariables false
set_option linter.unusedSimpArgs false
set_option linter.unusedSectionVars false
set_option maxRecDepth 100000
namespace Go.Proofs.Ytpbmahnieepmiaa.MS
open Go Go.Proofs.Ytpbmahnieepmiaa
section
variable {h : H}
def argO (x : KV) : List AV := [.c (.int .i64 x.1), .agg []]
end
end Go.Proofs.Ytpbmahnieepmiaa.MS
