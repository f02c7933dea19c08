/-
  Plain laws of the reference's sorted lists. Conditions: none.
-/
import Derived.Test.YtlmiafbcgfegpaaSp
set_option linter.unusedVariables false
set_option linter.unusedSimpArgs false
set_option linter.unusedSectionVars false
set_option maxRecDepth 100000
namespace Go.Proofs.Ytlmiafbcgfegpaa
open Go
section
variable {I : Type} {lt : I → I → Bool}
theorem mem_cut (o : Ord lt) {l : List I} (hs : Srt lt l) {x a : I} : (a ∈ l.take (pos lt l x) ∨ a ∈ l.drop (pos lt l x + if (fnd lt l x).isSome then 1 else 0)) ↔ a ∈ l ∧ (lt a x = true ∨ lt x a = true) := by
  constructor
  · rintro (h | h)
    · exact ⟨List.mem_of_mem_take h, .inl (take_pos_lt a h)⟩
    · exact ⟨List.mem_of_mem_drop h, .inr (drop_fnd_gt o hs a h)⟩
  · rintro ⟨h, g⟩
    obtain ⟨i, hi⟩ := List.mem_iff_getElem?.1 h
    have hsp := pos_spec o hs x i a hi
    by_cases hlt : lt a x = true
    · exact .inl (List.mem_iff_getElem?.2 ⟨i, by rw [List.getElem?_take, if_pos (hsp.2 hlt)]; exact hi⟩)
    · have hge : pos lt l x ≤ i := by
        rcases Nat.lt_or_ge i (pos lt l x) with hh | hh
        · exact (hlt (hsp.1 hh)).elim
        · exact hh
      have hgt := g.resolve_left hlt
      refine .inr (List.mem_iff_getElem?.2 ⟨i - (pos lt l x + if (fnd lt l x).isSome then 1 else 0), ?_⟩)
      have hge2 : pos lt l x + (if (fnd lt l x).isSome then 1 else 0) ≤ i := by
        cases hf : fnd lt l x with
        | none => simpa using hge
        | some b =>
          obtain ⟨h1, h2, h3⟩ := fnd_some_lt hf
          rcases Nat.lt_or_ge (pos lt l x) i with hh | hh
          · simp; omega
          · have e : i = pos lt l x := by omega
            subst e
            rw [hi] at h2
            obtain rfl := Option.some.inj h2
            rw [hgt] at h3; cases h3
      rw [List.getElem?_drop, Nat.add_sub_cancel' hge2]
      exact hi
theorem mem_put (o : Ord lt) {l : List I} (hs : Srt lt l) {x a : I} : a ∈ put lt l x ↔ a = x ∨ (a ∈ l ∧ (lt a x = true ∨ lt x a = true)) := by
  rw [← mem_cut o hs]
  unfold put
  simp only [List.mem_append, List.mem_cons]
  exact ⟨fun h => h.elim (fun h => .inr (.inl h)) fun h => h.imp id .inr, fun h => h.elim (fun h => .inr (.inl h)) fun h => h.imp id .inr⟩
end
theorem snoc_ind {I : Type} {P : List I → Prop} (h0 : P []) (h1 : ∀ xs x, P xs → P (xs ++ [x])) (xs : List I) : P xs := by
  have : ∀ n, ∀ xs : List I, xs.length = n → P xs := by
    intro n
    induction n with
    | zero => intro xs h; rw [List.length_eq_zero_iff.1 h]; exact h0
    | succ n ih =>
      intro xs h
      obtain ⟨ys, y, rfl⟩ : ∃ ys y, xs = ys ++ [y] := ⟨xs.dropLast, xs.getLast (by intro e; subst e; simp at h), (List.dropLast_concat_getLast _).symm⟩
      exact h1 ys y (ih ys (by simpa using h))
  exact this _ xs rfl
end Go.Proofs.Ytlmiafbcgfegpaa
