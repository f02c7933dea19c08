/-
  Plain laws of what is found in a sorted list. Conditions: none.
-/
import Derived.Test.YtlmiafbcgfegpaaPl
set_option linter.unusedVariables false
set_option linter.unusedSimpArgs false
set_option linter.unusedSectionVars false
set_option maxRecDepth 100000
namespace Go.Proofs.Ytlmiafbcgfegpaa
open Go
section
variable {I : Type} {lt : I → I → Bool}
theorem fnd_iff (o : Ord lt) {l : List I} (hs : Srt lt l) {x y : I} : fnd lt l x = some y ↔ y ∈ l ∧ lt x y = false ∧ lt y x = false := by
  constructor
  · intro h
    obtain ⟨h1, h2, h3⟩ := fnd_some_lt h
    refine ⟨List.mem_of_getElem? h2, h3, ?_⟩
    cases hq : lt y x with
    | false => rfl
    | true => exact absurd ((pos_spec o hs x _ y h2).2 hq) (Nat.lt_irrefl _)
  · rintro ⟨hm, h1, h2⟩
    obtain ⟨j, hj⟩ := List.getElem?_of_mem hm
    obtain ⟨hlt, he⟩ := List.getElem?_eq_some_iff.1 hj
    have hp : pos lt l x = j := by
      have h3 := pos_spec o hs x j y hj
      have h4 : ¬ j < pos lt l x := fun h => by rw [h3.1 h] at h2; cases h2
      rcases Nat.lt_or_ge (pos lt l x) j with h5 | h5
      · have hz := List.getElem?_eq_getElem (show pos lt l x < l.length by omega)
        have h6 := pos_spec o hs x _ _ hz
        have h7 := List.pairwise_iff_getElem.1 hs (pos lt l x) j (by omega) hlt h5
        rw [he] at h7
        exact absurd (h6.2 (o.lt_of_lt_of_le h7 h1)) (Nat.lt_irrefl _)
      · omega
    unfold fnd; rw [hp, hj]; simp [h1]
theorem fnd_put (o : Ord lt) {l : List I} (hs : Srt lt l) (x z : I) : fnd lt (put lt l z) x = if (!lt x z && !lt z x) = true then some z else fnd lt l x := by
  have hp := put_srt o hs z
  split
  · rename_i h
    simp only [Bool.and_eq_true, Bool.not_eq_true'] at h
    exact (fnd_iff o hp).2 ⟨(mem_put o hs).2 (.inl rfl), h.1, h.2⟩
  · rename_i h
    simp only [Bool.and_eq_true, Bool.not_eq_true', not_and, Bool.not_eq_false] at h
    refine Option.ext fun y => ?_
    rw [fnd_iff o hp, fnd_iff o hs, mem_put o hs]
    constructor
    · rintro ⟨rfl | ⟨h1, _⟩, h2, h3⟩
      · rw [h h2] at h3; cases h3
      · exact ⟨h1, h2, h3⟩
    · rintro ⟨h1, h2, h3⟩
      refine ⟨.inr ⟨h1, ?_⟩, h2, h3⟩
      cases hq : lt x z with
      | true => exact .inl (o.lt_of_le_of_lt h2 hq)
      | false => exact .inr (o.lt_of_lt_of_le (h hq) h3)
end
def lastE (o : List Int) (zs : List IV) (x : IV) : Option IV := zs.foldl (fun a z => if (!ltO o x z && !ltO o z x) = true then some z else a) none
theorem lastE_snoc (o : List Int) (zs : List IV) (x z : IV) : lastE o (zs ++ [z]) x = if (!ltO o x z && !ltO o z x) = true then some z else lastE o zs x := by simp [lastE]
theorem fnd_tree (o : List Int) (zs : List IV) (x : IV) : fnd (ltO o) (treeO o zs) x = lastE o zs x := by
  induction zs using snoc_ind with
  | h0 => rfl
  | h1 zs z ih => rw [treeO_snoc, fnd_put (ordO o) (treeO_srt o zs), lastE_snoc, ih]
end Go.Proofs.Ytlmiafbcgfegpaa
