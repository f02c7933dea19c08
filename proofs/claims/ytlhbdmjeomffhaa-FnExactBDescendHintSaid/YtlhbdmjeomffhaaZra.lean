/-
  The tree of interfaces: the greatest item; a key sought. Conditions: none.
-/
import Derived.Test.YtlhbdmjeomffhaaPgR
import Derived.Test.YtlhbdmjeomffhaaZsd
import Derived.Test.YtlhbdmjeomffhaaCb
set_option linter.unusedVariables false
set_option linter.unusedSimpArgs false
set_option linter.unusedSectionVars false
set_option maxRecDepth 100000
namespace Go.Proofs.Ytlhbdmjeomffhaa.TB
open Go Go.Proofs.Ytlhbdmjeomffhaa
section
variable {ls : Value} {oc : Ck} {o : List Int} {hp : Option PA} {h h0 : H} {G0 : PA → Prop} {r : List Ck}
def itR (f : Option KV) : SV [.c .raw, .c .bool] := (valO f, f.isSome, ())
end
end Go.Proofs.Ytlhbdmjeomffhaa.TB
