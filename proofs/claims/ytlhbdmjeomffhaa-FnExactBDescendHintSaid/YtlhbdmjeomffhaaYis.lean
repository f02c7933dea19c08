/-
  The thin package over the tree of items. Conditions: none.
-/
import Derived.Test.YtlhbdmjeomffhaaPgR
import Derived.Test.YtlhbdmjeomffhaaYim
import Derived.Test.YtlhbdmjeomffhaaYja
import Derived.Test.YtlhbdmjeomffhaaTk
set_option linter.unusedVariables false
set_option linter.unusedSimpArgs false
set_option linter.unusedSectionVars false
set_option maxRecDepth 100000
namespace Go.Proofs.Ytlhbdmjeomffhaa
open Go
def getsF (o : List Int) (l ks : List IV) : List (Option IV) := ks.map (fnd (ltO o) l)
theorem getsF_len (o : List Int) (l ks : List IV) : (getsF o l ks).length = ks.length := List.length_map _
theorem getsF_snoc {o : List Int} {l ks : List IV} {i : Nat} (h : i < ks.length) : getsF o l (ks.take (i + 1)) = getsF o l (ks.take i) ++ [fnd (ltO o) l ks[i]] := by rw [take_snoc h, getsF, List.map_append]; rfl
def atsF (l : List IV) (ks : List Int) : List (Option IV) := ks.map (atO l)
theorem atsF_len (l : List IV) (ks : List Int) : (atsF l ks).length = ks.length := List.length_map _
theorem atsF_snoc {l : List IV} {ks : List Int} {i : Nat} (h : i < ks.length) : atsF l (ks.take (i + 1)) = atsF l (ks.take i) ++ [atO l ks[i]] := by rw [take_snoc h, atsF, List.map_append]; rfl
section
variable {h : H}
section
variable {ls : Value} {o : List Int}
end
end
end Go.Proofs.Ytlhbdmjeomffhaa
