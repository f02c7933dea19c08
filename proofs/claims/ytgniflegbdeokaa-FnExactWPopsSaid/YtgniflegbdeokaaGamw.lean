/-
  The map mw: a key sought. Conditions: none.
-/
import Derived.Test.YtgniflegbdeokaaRamw
set_option linter.unusedVariables false
set_option linter.unusedSimpArgs false
set_option linter.unusedSectionVars false
set_option maxRecDepth 100000
namespace Go.Proofs.Ytgniflegbdeokaa.MW
open Go Go.Proofs.Ytgniflegbdeokaa
section
variable {h : H}
def getR (l : List KV) (k : ByteArray) : SV [.c (.int .i64), .c .bool] := match fnd lt l (k, 0) with
  | some y => (y.2, true, ())
  | none => (0, false, ())
end
end Go.Proofs.Ytgniflegbdeokaa.MW
