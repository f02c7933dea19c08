/-
  The thin package over the tree of items. Conditions: none.
-/
import Derived.Test.YtlmiafbcgfegpaaPgR
import Derived.Test.YtlmiafbcgfegpaaYim
import Derived.Test.YtlmiafbcgfegpaaYja
import Derived.Test.YtlmiafbcgfegpaaTk
set_option linter.unusedVariables false
set_option linter.unusedSimpArgs false
set_option linter.unusedSectionVars false
set_option maxRecDepth 100000
namespace Go.Proofs.Ytlmiafbcgfegpaa
open Go
def setsR (o : List Int) (l : List IV) (xs : List IV) : List IV := xs.foldl (fun t x => put (ltO o) t x) l
def setsF (o : List Int) : List IV → List IV → List (Option IV)
  | _, [] => []
  | l, x :: xs => fnd (ltO o) l x :: setsF o (put (ltO o) l x) xs
theorem setsR_snoc (o : List Int) (l xs : List IV) (x : IV) : setsR o l (xs ++ [x]) = put (ltO o) (setsR o l xs) x := by simp [setsR]
theorem setsF_snoc (o : List Int) : ∀ (l xs : List IV) (x : IV), setsF o l (xs ++ [x]) = setsF o l xs ++ [fnd (ltO o) (setsR o l xs) x]
  | l, [], x => rfl
  | l, a :: xs, x => by
    show fnd (ltO o) l a :: setsF o (put (ltO o) l a) (xs ++ [x]) = _
    rw [setsF_snoc]; rfl
theorem setsF_len (o : List Int) : ∀ (l xs : List IV), (setsF o l xs).length = xs.length
  | _, [] => rfl
  | l, x :: xs => by show (setsF o (put (ltO o) l x) xs).length + 1 = _; rw [setsF_len]; rfl
theorem setsR_tree (o : List Int) (xs : List IV) : setsR o [] xs = treeO o xs := rfl
section
variable {h : H}
section
variable {ls : Value} {o : List Int}
end
end
end Go.Proofs.Ytlmiafbcgfegpaa
