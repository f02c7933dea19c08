/-
  Sorted lists and trees as lists: what is handed on from the greatest to the least, without a program. Conditions: none.
-/
import Derived.Test.YtpbmahnieepmiaaCb
set_option linter.unusedVariables false
set_option linter.unusedSimpArgs false
set_option linter.unusedSectionVars false
set_option maxRecDepth 100000
namespace Go.Proofs.Ytpbmahnieepmiaa
open Go
section
variable {I : Type} {lt : I → I → Bool}
theorem rev_take {xs : List I} {j : Nat} {x : I} (h : xs[j]? = some x) : (xs.take (j + 1)).reverse = x :: (xs.take j).reverse := by
  obtain ⟨h1, h2⟩ := List.getElem?_eq_some_iff.1 h
  rw [List.take_succ_eq_append_getElem h1, h2]; simp
theorem take_here (o : Ord lt) {xs : List I} {ts : List (List I)} (hl : ts.length = xs.length + 1) (hs : Srt lt (weave xs ts)) {x y : I} {m : List I} (hm : ts[pos lt xs x]? = some m) (hf : fnd lt xs x = some y) :
    (weave xs ts).take (up lt (weave xs ts) x) = pre (ts.take (pos lt xs x)) (xs.take (pos lt xs x)) ++ (m ++ [y]) := by
  obtain ⟨hlt, hy, hxy⟩ := fnd_some_lt hf
  have hfw := (put_here o hl hs hf).2
  have hyx : lt y x = false := by
    cases hq : lt y x with
    | false => rfl
    | true =>
      have := (pos_spec o (srt_items hl hs) x _ y hy).2 hq
      omega
  obtain ⟨u, hu⟩ : ∃ u, ts[pos lt xs x + 1]? = some u := ⟨_, List.getElem?_eq_getElem (by omega)⟩
  unfold up
  rw [hfw]
  generalize pos lt xs x = i at *
  have e := weave_at (Nat.le_of_lt hlt) hm
  rw [← List.append_assoc] at e
  have hp : post (xs.drop i) (ts.drop (i + 1)) = y :: (u ++ post (xs.drop (i + 1)) (ts.drop (i + 2))) := post_cons hy hu
  rw [e] at hs ⊢
  obtain ⟨g1, g2, g3⟩ := srt_append.1 hs
  rw [pos_app (fun a ha => ?_) (fun b hb => ?_), hp]
  · simp only [Option.isSome_some, if_true]
    rw [List.take_length_add_append]
    simp
  · have := g3 a ha y (by rw [hp]; simp)
    cases hq : lt a x with
    | true => rfl
    | false => rw [o.neg _ _ _ hq hxy] at this; cases this
  · rw [hp] at hb
    simp at hb; subst hb; exact hyx
theorem take_child (o : Ord lt) {xs : List I} {ts : List (List I)} (hl : ts.length = xs.length + 1) (hs : Srt lt (weave xs ts)) {x : I} {m : List I} (hm : ts[pos lt xs x]? = some m) (hf : fnd lt xs x = none) :
    (weave xs ts).take (up lt (weave xs ts) x) = pre (ts.take (pos lt xs x)) (xs.take (pos lt xs x)) ++ m.take (up lt m x) := by
  obtain ⟨_, hfw, hpw, _⟩ := put_child o hl hs hm hf
  have hule := up_le o m x
  have hu : up lt (weave xs ts) x = (pre (ts.take (pos lt xs x)) (xs.take (pos lt xs x))).length + up lt m x := by
    unfold up
    rw [hpw, hfw]; omega
  rw [hu, weave_at (pos_le xs x) hm, List.take_length_add_append, List.take_append_of_le_length hule]
end
end Go.Proofs.Ytpbmahnieepmiaa
