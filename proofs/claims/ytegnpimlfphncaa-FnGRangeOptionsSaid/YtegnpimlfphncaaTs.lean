/-
  The reference's scans: all items, and those from a pivot on. Conditions: none.
-/
import Derived.Test.YtegnpimlfphncaaTk
set_option linter.unusedVariables false
set_option linter.unusedSimpArgs false
set_option linter.unusedSectionVars false
set_option maxRecDepth 100000
namespace Go.Proofs.Ytegnpimlfphncaa
open Go
section
variable {h : H}
end
end Go.Proofs.Ytegnpimlfphncaa
