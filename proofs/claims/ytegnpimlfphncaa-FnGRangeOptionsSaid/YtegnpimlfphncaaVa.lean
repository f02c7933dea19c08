/-
  Lists of numbers that are made and compared: append of one, 'slices.Equal', the reference's 'Values'. Conditions: none.
-/
import Derived.Test.YtegnpimlfphncaaSp
set_option linter.unusedVariables false
set_option linter.unusedSimpArgs false
set_option linter.unusedSectionVars false
set_option maxRecDepth 100000
namespace Go.Proofs.Ytegnpimlfphncaa
open Go
section
variable {P : Program} {Q : Ex → List AV → H → Prop} {h h0 : H} {G0 : PA → Prop} {l : List Ck}
theorem st_apo {I : Type} {L : Lay I} (s : St h0 G0 l h) {d : SlT} {xs : List I} {y : I} {r : List Ck} [Pk (.sl d) l (SlC d L.sz (L.flat xs)) r] (hd : OwnL L d xs) {e : TypeId} {byt sz : Nat} {z : List Cell} {sp : Option PA} {sc : Nat} {m : SlT → M}
    (hsz : sz = L.sz) (hz : z.length = L.sz) (hs : RSl h (sp, 1, sc) L.sz (L.flat [y])) (hg : growOk (xs.length + 1) byt)
    (hw : ∀ d' h', OwnL L d' (xs ++ [y]) → St h0 G0 (SlC d' L.sz (L.flat (xs ++ [y])) :: r) h' → wp P (m d') Q h') : wp P (.append e sz byt z d (sp, 1, sc) m) Q h := by
  subst hsz
  refine st_append (s.at (.sl d)) hz hs (L.flat_one [y]) (by rw [hd.1]; exact hg) fun d' h' S hlen hsome => ?_
  rw [← L.flat_append] at S
  have hs' : d'.1.isSome = true := hsome (.inl (Nat.succ_pos _))
  obtain ⟨F, ⟨_, h2, _⟩, _⟩ := S.fact
  exact hw d' h' ⟨by rw [hlen, hd.1]; simp, h2, .inr hs'⟩ S
end
section
variable {h : H}
end
end Go.Proofs.Ytegnpimlfphncaa
