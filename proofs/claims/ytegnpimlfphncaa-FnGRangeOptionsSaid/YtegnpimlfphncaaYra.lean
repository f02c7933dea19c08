/-
  The map tg: the greatest item; a key sought. Conditions: none.
-/
import Derived.Test.YtegnpimlfphncaaYsd
import Derived.Test.YtegnpimlfphncaaCb
set_option linter.unusedVariables false
set_option linter.unusedSimpArgs false
set_option linter.unusedSectionVars false
set_option maxRecDepth 100000
namespace Go.Proofs.Ytegnpimlfphncaa.TG
open Go Go.Proofs.Ytegnpimlfphncaa
section
variable {ls : Value} {oc : Ck} {o : List Int} {hp : Option PA} {h h0 : H} {G0 : PA → Prop} {r : List Ck}
def itR (f : Option KV) : SV [.agg [.int .i64, .int .i64], .c .bool] := (((f.getD (0, 0)).1, (f.getD (0, 0)).2, ()), f.isSome, ())
end
end Go.Proofs.Ytegnpimlfphncaa.TG
