/-
  The tree of interfaces: the items handed on in order, all of them or from a key on. Conditions: none.
-/
import Derived.Test.YtlhbdmjeomffhaaPgR
import Derived.Test.YtlhbdmjeomffhaaZra
import Derived.Test.YtlhbdmjeomffhaaCb
set_option linter.unusedVariables false
set_option linter.unusedSimpArgs false
set_option linter.unusedSectionVars false
set_option maxRecDepth 100000
namespace Go.Proofs.Ytlhbdmjeomffhaa.TB
open Go Go.Proofs.Ytlhbdmjeomffhaa
section
variable {ls : Value} {oc : Ck} {o : List Int} {hp : Option PA} {h : H}
def argO (x : KV) : List AV := [.c (.raw (anyV x))]
end
end Go.Proofs.Ytlhbdmjeomffhaa.TB
