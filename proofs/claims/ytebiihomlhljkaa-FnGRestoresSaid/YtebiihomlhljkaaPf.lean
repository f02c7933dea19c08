/-
  Plain laws of what is found in a sorted list. Conditions: none.
-/
import Derived.Test.YtebiihomlhljkaaPl
set_option linter.unusedVariables false
set_option linter.unusedSimpArgs false
set_option linter.unusedSectionVars false
set_option maxRecDepth 100000
namespace Go.Proofs.Ytebiihomlhljkaa
open Go
section
variable {I : Type} {lt : I → I → Bool}
theorem fnd_iff (o : Ord lt) {l : List I} (hs : Srt lt l) {x y : I} : fnd lt l x = some y ↔ y ∈ l ∧ lt x y = false ∧ lt y x = false := by
  constructor
  · intro h
    obtain ⟨h1, h2, h3⟩ := fnd_some_lt h
    refine ⟨List.mem_of_getElem? h2, h3, ?_⟩
    cases hq : lt y x with
    | false => rfl
    | true => exact absurd ((pos_spec o hs x _ y h2).2 hq) (Nat.lt_irrefl _)
  · rintro ⟨hm, h1, h2⟩
    obtain ⟨j, hj⟩ := List.getElem?_of_mem hm
    obtain ⟨hlt, he⟩ := List.getElem?_eq_some_iff.1 hj
    have hp : pos lt l x = j := by
      have h3 := pos_spec o hs x j y hj
      have h4 : ¬ j < pos lt l x := fun h => by rw [h3.1 h] at h2; cases h2
      rcases Nat.lt_or_ge (pos lt l x) j with h5 | h5
      · have hz := List.getElem?_eq_getElem (show pos lt l x < l.length by omega)
        have h6 := pos_spec o hs x _ _ hz
        have h7 := List.pairwise_iff_getElem.1 hs (pos lt l x) j (by omega) hlt h5
        rw [he] at h7
        exact absurd (h6.2 (o.lt_of_lt_of_le h7 h1)) (Nat.lt_irrefl _)
      · omega
    unfold fnd; rw [hp, hj]; simp [h1]
end
end Go.Proofs.Ytebiihomlhljkaa
