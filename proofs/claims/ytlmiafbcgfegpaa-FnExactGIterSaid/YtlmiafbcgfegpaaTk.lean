/-
  The function that keeps the items that are handed to it; the reference's 'First'; lists of items compared. Conditions: none.
-/
import Derived.Test.YtlmiafbcgfegpaaVa
import Derived.Test.YtlmiafbcgfegpaaCb
set_option linter.unusedVariables false
set_option linter.unusedSimpArgs false
set_option linter.unusedSectionVars false
set_option maxRecDepth 100000
namespace Go.Proofs.Ytlmiafbcgfegpaa
open Go
section
variable {P : Program} {Q : Ex → List AV → H → Prop} {h h0 : H} {G0 : PA → Prop} {l : List Ck}
theorem Rdr.part {I : Type} {c : Ck} {sp : Option PA} {n cap : Nat} {L : Lay I} {xs : List I} (r : Rdr c (sp, n, cap) L xs) (b k : Nat) (hb : b + k ≤ n) : Rdr c (slBase sp cap b L.sz, k, cap - b) L ((xs.drop b).take k) := by
  have hn : n = xs.length := r.1
  have hcap : n ≤ cap := r.2.1
  refine ⟨by rw [List.length_take, List.length_drop]; show k = _; omega, by show k ≤ cap - b; omega, ?_⟩
  by_cases hk : k = 0
  · left; subst hk; rfl
  · right
    obtain ⟨p, hp, hrd⟩ := r.ptr (by omega)
    dsimp only at hp
    subst hp
    refine ⟨(p.1, p.2 + b * L.sz), slBase_in (by omega), fun h F hc => ?_⟩
    have := rds_part (hrd h F hc) b k cap (cap - b) (by omega) (by omega)
    rcases this.2 with h0 | ⟨q, hq, ho⟩
    · intro i v hv
      rw [h0] at hv; simp at hv
    · rw [slBase_in (by omega)] at hq
      obtain rfl := Option.some.inj hq
      exact ho
end
end Go.Proofs.Ytlmiafbcgfegpaa
