/-
  Plain laws of the reference's sorted lists. Conditions: none.
-/
import Derived.Test.YtebiihomlhljkaaSp
set_option linter.unusedVariables false
set_option linter.unusedSimpArgs false
set_option linter.unusedSectionVars false
set_option maxRecDepth 100000
namespace Go.Proofs.Ytebiihomlhljkaa
open Go

section
variable {I : Type} {lt : I → I → Bool}
theorem mem_cut (o : Ord lt) {l : List I} (hs : Srt lt l) {x a : I} : (a ∈ l.take (pos lt l x) ∨ a ∈ l.drop (pos lt l x + if (fnd lt l x).isSome then 1 else 0)) ↔ a ∈ l ∧ (lt a x = true ∨ lt x a = true) := by
  constructor
  · rintro (h | h)
    · exact ⟨List.mem_of_mem_take h, .inl (take_pos_lt a h)⟩
    · exact ⟨List.mem_of_mem_drop h, .inr (drop_fnd_gt o hs a h)⟩
  · rintro ⟨h, g⟩
    obtain ⟨i, hi⟩ := List.mem_iff_getElem?.1 h
    have hsp := pos_spec o hs x i a hi
    by_cases hlt : lt a x = true
    · exact .inl (List.mem_iff_getElem?.2 ⟨i, by rw [List.getElem?_take, if_pos (hsp.2 hlt)]; exact hi⟩)
    · have hge : pos lt l x ≤ i := by
        rcases Nat.lt_or_ge i (pos lt l x) with hh | hh
        · exact (hlt (hsp.1 hh)).elim
        · exact hh
      have hgt := g.resolve_left hlt
      refine .inr (List.mem_iff_getElem?.2 ⟨i - (pos lt l x + if (fnd lt l x).isSome then 1 else 0), ?_⟩)
      have hge2 : pos lt l x + (if (fnd lt l x).isSome then 1 else 0) ≤ i := by
        cases hf : fnd lt l x with
        | none => simpa using hge
        | some b =>
          obtain ⟨h1, h2, h3⟩ := fnd_some_lt hf
          rcases Nat.lt_or_ge (pos lt l x) i with hh | hh
          · simp; omega
          · have e : i = pos lt l x := by omega
            subst e
            rw [hi] at h2
            obtain rfl := Option.some.inj h2
            rw [hgt] at h3; cases h3
      rw [List.getElem?_drop, Nat.add_sub_cancel' hge2]
      exact hi
theorem mem_put (o : Ord lt) {l : List I} (hs : Srt lt l) {x a : I} : a ∈ put lt l x ↔ a = x ∨ (a ∈ l ∧ (lt a x = true ∨ lt x a = true)) := by
  rw [← mem_cut o hs]
  unfold put
  simp only [List.mem_append, List.mem_cons]
  exact ⟨fun h => h.elim (fun h => .inr (.inl h)) fun h => h.imp id .inr, fun h => h.elim (fun h => .inr (.inl h)) fun h => h.imp id .inr⟩
theorem mem_del (o : Ord lt) {l : List I} (hs : Srt lt l) {x a : I} : a ∈ del lt l x ↔ a ∈ l ∧ (lt a x = true ∨ lt x a = true) := by
  rw [← mem_cut o hs]
  unfold del
  simp only [List.mem_append]
end

/-- The value that a key was set to last. -/
def lastO (xs : List IV) (k : Int) : Option Int := xs.foldl (fun a x => if x.1 = k then some x.2 else a) none
theorem lastO_snoc (xs : List IV) (x : IV) (k : Int) : lastO (xs ++ [x]) k = if x.1 = k then some x.2 else lastO xs k := by simp [lastO]
theorem ltO_nil (a b : IV) : ltO [] a b = decide (a.1 < b.1) := rfl
theorem snoc_ind {I : Type} {P : List I → Prop} (h0 : P []) (h1 : ∀ xs x, P xs → P (xs ++ [x])) (xs : List I) : P xs := by
  have : ∀ n, ∀ xs : List I, xs.length = n → P xs := by
    intro n
    induction n with
    | zero => intro xs h; rw [List.length_eq_zero_iff.1 h]; exact h0
    | succ n ih =>
      intro xs h
      obtain ⟨ys, y, rfl⟩ : ∃ ys y, xs = ys ++ [y] := ⟨xs.dropLast, xs.getLast (by intro e; subst e; simp at h), (List.dropLast_concat_getLast _).symm⟩
      exact h1 ys y (ih ys (by simpa using h))
  exact this _ xs rfl
theorem mem_tree (xs : List IV) (a : IV) : a ∈ treeO [] xs ↔ lastO xs a.1 = some a.2 := by
  induction xs using snoc_ind with
  | h0 => simp [treeO, lastO]
  | h1 xs x ih =>
    rw [treeO_snoc, mem_put (ordO []) (treeO_srt [] xs), lastO_snoc, ih]
    simp only [ltO_nil, decide_eq_true_eq]
    by_cases hk : x.1 = a.1
    · rw [if_pos hk]
      constructor
      · rintro (rfl | ⟨_, h | h⟩)
        · rfl
        · omega
        · omega
      · intro h
        left
        exact Prod.ext hk.symm (Option.some.inj h).symm
    · rw [if_neg hk]
      constructor
      · rintro (rfl | ⟨h, _⟩)
        · exact (hk rfl).elim
        · exact h
      · intro h
        exact .inr ⟨h, by omega⟩
theorem key_tree {xs : List IV} {x : IV} (hx : x ∈ xs) : ∃ v, (x.1, v) ∈ treeO [] xs := by
  have : ∃ v, lastO xs x.1 = some v := by
    induction xs using snoc_ind with
    | h0 => simp at hx
    | h1 xs y ih =>
      rw [lastO_snoc]
      by_cases hk : y.1 = x.1
      · exact ⟨y.2, if_pos hk⟩
      · rw [if_neg hk]
        rcases List.mem_append.1 hx with h | h
        · exact ih h
        · simp at h; subst h; exact (hk rfl).elim
  obtain ⟨v, hv⟩ := this
  exact ⟨v, (mem_tree xs (x.1, v)).2 hv⟩
theorem tree_asc {xs : List IV} {i j : Nat} {a b : IV} (hij : i < j) (ha : (treeO [] xs)[i]? = some a) (hb : (treeO [] xs)[j]? = some b) : a.1 < b.1 := by
  obtain ⟨h1, rfl⟩ := List.getElem?_eq_some_iff.1 ha
  obtain ⟨h2, rfl⟩ := List.getElem?_eq_some_iff.1 hb
  have := List.pairwise_iff_getElem.1 (treeO_srt [] xs) i j h1 h2 hij
  simpa [ltO_nil] using this
end Go.Proofs.Ytebiihomlhljkaa
