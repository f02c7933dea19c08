/-
  The map mw: the greatest item; a key sought. Conditions: none.
-/
import Derived.Test.YtgniflegbdeokaaSdmw
set_option linter.unusedVariables false
set_option linter.unusedSimpArgs false
set_option linter.unusedSectionVars false
set_option maxRecDepth 100000
namespace Go.Proofs.Ytgniflegbdeokaa.MW
open Go Go.Proofs.Ytgniflegbdeokaa
section
variable {h : H}
end
end Go.Proofs.Ytgniflegbdeokaa.MW
