/-
  The law FnExactSDescend. Conditions: none.
-/
import Derived.Test.YtpbmahnieepmiaaPgA
import Derived.Test.YtpbmahnieepmiaaLawSLen
import Derived.Test.YtpbmahnieepmiaaTni
import Derived.Test.YtpbmahnieepmiaaTd
set_option linter.unusedVariables false
set_option linter.unusedSimpArgs false
set_option linter.unusedSectionVars false
set_option maxRecDepth 100000
namespace Go.Proofs.Ytpbmahnieepmiaa
open Go
section
variable {h h0 : H} {G0 : PA → Prop} {l : List Ck}
theorem kL_keys (l : List IV) : (kL l).map (·.1) = yO l := by unfold kL yO; rw [List.map_map]; rfl
end
end Go.Proofs.Ytpbmahnieepmiaa
