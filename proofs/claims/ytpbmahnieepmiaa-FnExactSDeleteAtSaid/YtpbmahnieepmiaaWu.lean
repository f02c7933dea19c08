/-
  Small numbers in cells; the end of a way through a tree. Conditions: none.
-/
import Derived.Test.YtpbmahnieepmiaaWd
import Derived.Test.YtpbmahnieepmiaaCb
set_option linter.unusedVariables false
set_option linter.unusedSimpArgs false
set_option linter.unusedSectionVars false
set_option maxRecDepth 100000
namespace Go.Proofs.Ytpbmahnieepmiaa
open Go
section
variable {P : Program} {Q : Ex → List AV → H → Prop} {h : H}
theorem md_q {j i : Nat} {ss : List Sh} {R : SV ss → H → Prop} {vs : List AV} (hij : i ≠ j) (hw : wp P (.done (.exit i) vs) Q h) : wp P (.done (.exit i) vs) (Me (some j) ss R Q) h := by
  show if i = j then _ else _
  rw [if_neg hij]; exact hw
def LU : Lay Int where
  sz := 1
  cells x := [.int .u8 x]
  len _ := rfl
  one _ _ hv := by simp at hv; subst hv; rfl
  pos := by decide
theorem w_lu {p : PA} {xs : List Int} (hr : rds h p (LU.flat xs)) {i : Nat} {x : Int} (hx : xs[i]? = some x) {m : Int → M} (hw : wp P (m x) Q h) : wp P (.load (p.1, p.2 + i) (.int .u8) m) Q h := by
  refine w_int x ?_ hw
  have := hr (i * 1 + 0) _ (LU.flat_get (j := 0) hx rfl)
  simpa using this
theorem inU8 {n : Nat} (h : n ≤ 255) : InK .u8 (n : Int) := by
  show IntKind.u8.wrap _ = _
  simp [IntKind.wrap, IntKind.bits, IntKind.signed]
  omega
def EndOK {I : Type} : (n : Nat) → BT I n → List Nat → Nat → Prop
  | 0, _, w, _ => w = []
  | _ + 1, t, [], k => k < t.2.length
  | n + 1, t, i :: w, k => ∃ u, t.2[i]? = some u ∧ EndOK n u w k
end
section
variable {I : Type}
theorem ht_lt {mn mx : Nat} (h1 : 1 ≤ mn) : ∀ (n : Nat) (t : BT I n), Val mn mx n t → 1 ≤ (itemsB n t).length → n < (flatB n t).length
  | 0, t, _, hi => hi
  | n + 1, t, hv, hi => by
    obtain ⟨u, hu⟩ : ∃ u, t.2[0]? = some u := ⟨_, List.getElem?_eq_getElem (by rw [hv.2.1]; omega)⟩
    have hm := hv.2.2 u (List.mem_of_getElem? hu)
    have ih := ht_lt h1 n u hm.1 (by have := hm.2; omega)
    have hal := ah_len (xs := t.1) hv.2.1 hu
    have hi : 1 ≤ t.1.length := hi
    have e : flatB (n + 1) ((t.1, t.2) : BT I (n + 1)) = flatB (n + 1) t := rfl
    rw [e] at hal
    omega
end
