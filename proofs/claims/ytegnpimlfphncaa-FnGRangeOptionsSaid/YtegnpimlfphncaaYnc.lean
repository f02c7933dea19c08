/-
  The map tg: the items handed on in order from a key on. Conditions: none.
-/
import Derived.Test.YtegnpimlfphncaaYna
set_option linter.unusedVariables false
set_option linter.unusedSimpArgs false
set_option linter.unusedSectionVars false
set_option maxRecDepth 100000
namespace Go.Proofs.Ytegnpimlfphncaa.TG
open Go Go.Proofs.Ytegnpimlfphncaa
section
variable {ls : Value} {oc : Ck} {o : List Int} {hp : Option PA} {h : H}
end
end Go.Proofs.Ytegnpimlfphncaa.TG
