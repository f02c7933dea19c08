/-
  The law FnExactGDeleteHint. Conditions: none.
-/
import Derived.Test.YtebiihomlhljkaaYal
import Derived.Test.YtebiihomlhljkaaYdf
import Derived.Test.YtebiihomlhljkaaYhs
import Derived.Test.YtebiihomlhljkaaPf
set_option linter.unusedVariables false
set_option linter.unusedSimpArgs false
set_option linter.unusedSectionVars false
set_option maxRecDepth 100000
namespace Go.Proofs.Ytebiihomlhljkaa
open Go
def delR (o : List Int) (l : List IV) (xs : List IV) : List IV := xs.foldl (fun t x => del (ltO o) t x) l
def delF (o : List Int) : List IV → List IV → List (Option IV)
  | _, [] => []
  | l, x :: xs => fnd (ltO o) l x :: delF o (del (ltO o) l x) xs
theorem delR_snoc (o : List Int) (l xs : List IV) (x : IV) : delR o l (xs ++ [x]) = del (ltO o) (delR o l xs) x := by simp [delR]
theorem delF_snoc (o : List Int) : ∀ (l xs : List IV) (x : IV), delF o l (xs ++ [x]) = delF o l xs ++ [fnd (ltO o) (delR o l xs) x]
  | l, [], x => rfl
  | l, a :: xs, x => by
    show fnd (ltO o) l a :: delF o (del (ltO o) l a) (xs ++ [x]) = _
    rw [delF_snoc]; rfl
theorem delF_len (o : List Int) : ∀ (l xs : List IV), (delF o l xs).length = xs.length
  | _, [] => rfl
  | l, x :: xs => by show (delF o (del (ltO o) l x) xs).length + 1 = _; rw [delF_len]; rfl
theorem del_leO (o : List Int) (l : List IV) (x : IV) : (del (ltO o) l x).length ≤ l.length := by
  have : (del (ltO o) l x).Sublist l := by
    unfold del
    conv => rhs; rw [← List.take_append_drop (pos (ltO o) l x) l]
    refine List.Sublist.append (List.Sublist.refl _) ?_
    rw [← List.drop_drop]
    exact List.drop_sublist _ _
  exact this.length_le
theorem delR_len (o : List Int) (l xs : List IV) : (delR o l xs).length ≤ l.length := by
  induction xs generalizing l with
  | nil => exact Nat.le_refl _
  | cons b bs ih => exact Nat.le_trans (ih (del (ltO o) l b)) (del_leO o l b)
section
variable {h : H}
end
end Go.Proofs.Ytebiihomlhljkaa
