/-
  Functions that are handed on and called with one item after another until one answers false. Conditions: none.
-/
import Derived.Test.YtlmiafbcgfegpaaBe
set_option linter.unusedVariables false
set_option linter.unusedSimpArgs false
set_option linter.unusedSectionVars false
set_option maxRecDepth 100000
namespace Go.Proofs.Ytlmiafbcgfegpaa
open Go
section
variable {I : Type}
def run (go : List I → I → Bool) : List I → List I → List I × Bool
  | acc, [] => (acc, true)
  | acc, x :: xs => if go acc x then run go (acc ++ [x]) xs else (acc ++ [x], false)
section
variable {P : Program} {Q : Ex → List AV → H → Prop} {h h0 : H} {G0 : PA → Prop} {l : List Ck}
end
end
section
variable {I : Type} {n : Nat}
theorem ah_at {xs : List I} {ts : List (BT I n)} {i : Nat} {u : BT I n} (hl : ts.length = xs.length + 1) (hu : ts[i]? = some u) : ∃ B, flatB (n + 1) ((xs, ts) : BT I (n + 1)) = ahead xs ts i ++ (flatB n u ++ B) := by
  obtain ⟨h3, h4⟩ := List.getElem?_eq_some_iff.1 hu
  refine ⟨post (xs.drop i) ((ts.map (flatB n)).drop (i + 1)), ?_⟩
  show weave xs (ts.map (flatB n)) = _
  rw [weave_at (i := i) (by omega) (m := flatB n u) (by rw [List.getElem?_map, hu]; rfl)]
  simp only [ahead, List.map_take]
theorem ah_at2 {xs : List I} {ts : List (BT I n)} {i : Nat} {u : BT I n} {x : I} (hl : ts.length = xs.length + 1) (hu : ts[i]? = some u) (hx : xs[i]? = some x) : ∃ B, flatB (n + 1) ((xs, ts) : BT I (n + 1)) = ahead xs ts i ++ (flatB n u ++ [x]) ++ B := by
  obtain ⟨h1, h2⟩ := List.getElem?_eq_some_iff.1 hx
  obtain ⟨v, hv⟩ : ∃ v, ts[i + 1]? = some v := ⟨_, List.getElem?_eq_getElem (by omega)⟩
  obtain ⟨B, hB⟩ := ah_at hl hv
  rw [ah_succ hl hx hu] at hB
  exact ⟨_, hB⟩
end
section
variable {I : Type} {lt : I → I → Bool}
end
end Go.Proofs.Ytlmiafbcgfegpaa
