/-
  The map ms: a key sought. Conditions: none.
-/
import Derived.Test.YtpbmahnieepmiaaRams
set_option linter.unusedVariables false
set_option linter.unusedSimpArgs false
set_option linter.unusedSectionVars false
set_option maxRecDepth 100000
namespace Go.Proofs.Ytpbmahnieepmiaa.MS
open Go Go.Proofs.Ytpbmahnieepmiaa
section
variable {h : H}
def getR (l : List KV) (k : Int) : SV [.agg [], .c .bool] := match fnd lt l (k, ()) with
  | some y => ((), true, ())
  | none => ((), false, ())
end
end Go.Proofs.Ytpbmahnieepmiaa.MS
