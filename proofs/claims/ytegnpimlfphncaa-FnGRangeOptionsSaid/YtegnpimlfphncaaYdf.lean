/-
  The tree of items: an item deleted. Conditions: none.
-/
import Derived.Test.YtegnpimlfphncaaPgD
import Derived.Test.YtegnpimlfphncaaYde
import Derived.Test.YtegnpimlfphncaaWd
set_option linter.unusedVariables false
set_option linter.unusedSimpArgs false
set_option linter.unusedSectionVars false
set_option maxRecDepth 100000
namespace Go.Proofs.Ytegnpimlfphncaa.TG
open Go Go.Proofs.Ytegnpimlfphncaa
section
variable {ls : Value} {oc : Ck} {o : List Int} {hp : Option PA} {h h0 : H} {G0 : PA → Prop} {r : List Ck}
theorem del_none {l : List KV} {x : KV} (hf : fnd (ltO o) l x = none) : del (ltO o) l x = l := by
  unfold del; rw [hf]; simp
end
end Go.Proofs.Ytegnpimlfphncaa.TG
