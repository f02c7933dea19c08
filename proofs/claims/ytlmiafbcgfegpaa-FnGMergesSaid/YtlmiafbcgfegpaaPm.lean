/-
  The plain law of trees merged: growing what two trees hold gives the tree of both lists. Conditions: none.
-/
import Derived.Test.YtlmiafbcgfegpaaPf
set_option linter.unusedVariables false
set_option linter.unusedSimpArgs false
set_option linter.unusedSectionVars false
set_option maxRecDepth 100000
namespace Go.Proofs.Ytlmiafbcgfegpaa
open Go
section
variable {I : Type} {lt : I → I → Bool}
theorem srt_extM (o : Ord lt) : ∀ {l m : List I}, Srt lt l → Srt lt m → (∀ a, a ∈ l ↔ a ∈ m) → l = m
  | [], [], _, _, _ => rfl
  | [], b :: m, _, _, h => by have := (h b).2 (by simp); simp at this
  | a :: l, [], _, _, h => by have := (h a).1 (by simp); simp at this
  | a :: l, b :: m, hl, hm, h => by
    obtain ⟨l1, l2⟩ := List.pairwise_cons.1 hl
    obtain ⟨m1, m2⟩ := List.pairwise_cons.1 hm
    have hab : a = b := by
      rcases List.mem_cons.1 ((h a).1 (by simp)) with e | ha
      · exact e
      · rcases List.mem_cons.1 ((h b).2 (by simp)) with e | hb
        · exact e.symm
        · have h1 := l1 b hb
          have h2 := m1 a ha
          rw [o.asym h1] at h2; cases h2
    subst hab
    rw [srt_extM o l2 m2 fun x => ?_]
    constructor
    · intro hx
      rcases List.mem_cons.1 ((h x).1 (by simp [hx])) with e | hx'
      · subst e; have := l1 x hx; rw [o.irr] at this; cases this
      · exact hx'
    · intro hx
      rcases List.mem_cons.1 ((h x).2 (by simp [hx])) with e | hx'
      · subst e; have := m1 x hx; rw [o.irr] at this; cases this
      · exact hx'
theorem srt_fnd (o : Ord lt) {l m : List I} (hl : Srt lt l) (hm : Srt lt m) (h : ∀ x, fnd lt l x = fnd lt m x) : l = m := by
  refine srt_extM o hl hm fun a => ⟨fun ha => ?_, fun ha => ?_⟩
  · have := (fnd_iff o hl (x := a) (y := a)).2 ⟨ha, o.irr a, o.irr a⟩
    rw [h] at this
    exact ((fnd_iff o hm).1 this).1
  · have := (fnd_iff o hm (x := a) (y := a)).2 ⟨ha, o.irr a, o.irr a⟩
    rw [← h] at this
    exact ((fnd_iff o hl).1 this).1
end
section
variable {o : List Int}
theorem lastE_mem (zs : List IV) (x y : IV) : lastE o zs x = some y → y ∈ zs ∧ ltO o x y = false ∧ ltO o y x = false := by
  induction zs using snoc_ind with
  | h0 => intro h; cases h
  | h1 zs z ih =>
    rw [lastE_snoc]
    intro h
    split at h
    · rename_i hc
      obtain rfl := Option.some.inj h
      simp only [Bool.and_eq_true, Bool.not_eq_true'] at hc
      exact ⟨by simp, hc.1, hc.2⟩
    · obtain ⟨h1, h2⟩ := ih h
      exact ⟨by simp [h1], h2⟩
theorem lastE_some (zs : List IV) (x y : IV) (hy : y ∈ zs) (h1 : ltO o x y = false) (h2 : ltO o y x = false) : lastE o zs x ≠ none := by
  induction zs using snoc_ind with
  | h0 => cases hy
  | h1 zs z ih =>
    rw [lastE_snoc]
    split
    · exact fun h => by cases h
    · rename_i hc
      refine ih ?_
      rcases List.mem_append.1 hy with h | h
      · exact h
      · obtain rfl : y = z := by simpa using h
        rw [h1, h2] at hc; exact absurd rfl hc
theorem lastE_srt {l : List IV} (hs : Srt (ltO o) l) (x : IV) : lastE o l x = fnd (ltO o) l x := by
  cases hf : fnd (ltO o) l x with
  | none =>
    cases hl : lastE o l x with
    | none => rfl
    | some y =>
      have := (fnd_iff (ordO o) hs).2 (lastE_mem l x y hl)
      rw [hf] at this; cases this
  | some y =>
    obtain ⟨h1, h2, h3⟩ := (fnd_iff (ordO o) hs).1 hf
    cases hl : lastE o l x with
    | none => exact absurd hl (lastE_some l x y h1 h2 h3)
    | some z =>
      have := (fnd_iff (ordO o) hs).2 (lastE_mem l x z hl)
      rw [hf] at this
      exact this.symm
theorem lastE_app (a b : List IV) (x : IV) : lastE o (a ++ b) x = (lastE o b x).or (lastE o a x) := by
  induction b using snoc_ind with
  | h0 => rw [List.append_nil]; rfl
  | h1 b z ih =>
    rw [← List.append_assoc, lastE_snoc, lastE_snoc, ih]
    split <;> rfl
theorem lastE_tree (a : List IV) (x : IV) : lastE o (treeO o a) x = lastE o a x := by rw [lastE_srt (treeO_srt o a), fnd_tree]
theorem tree_merge (a b : List IV) : treeO o (treeO o a ++ treeO o b) = treeO o (a ++ b) := by
  refine srt_fnd (ordO o) (treeO_srt o _) (treeO_srt o _) fun x => ?_
  rw [fnd_tree, fnd_tree, lastE_app, lastE_app, lastE_tree, lastE_tree]
end
end Go.Proofs.Ytlmiafbcgfegpaa
