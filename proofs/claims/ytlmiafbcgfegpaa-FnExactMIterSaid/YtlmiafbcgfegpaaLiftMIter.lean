/-
  The row of FnExactMIter. Conditions: none.
-/
import Derived.Test.YtlmiafbcgfegpaaLiftM
import Derived.Test.YtlmiafbcgfegpaaLawMIter
set_option linter.unusedVariables false
set_option linter.unusedSimpArgs false
set_option linter.unusedSectionVars false
set_option maxRecDepth 100000
namespace Go.Proofs.Ytlmiafbcgfegpaa
open Go Go.ChangeShapes Go.WideShapes Go.ChangeAt Go.RowKit
theorem d_MIter (H' : Type) (enc : TypeId × Value → H') (W : World) (base : Nat) (args : Array Value) (ds gs : List (DataW H')) (before : List MemPlace)
    (hval : ∀ (j : Nat) t v, Try.f5.params[j]? = some t → args[j]? = some v → Value.okWide Try.prog W .any base t v)
    (hW : DataW.Whole enc Try.prog Try.f5.params.toList Rows.fnExactMIterSpec.vars false W args.toList ds gs before) :
    Calls Try.prog 5 args W fun e W' => ∃ v, e = .returned v ∧ Rows.fnExactMIterSpec.post enc Try.prog Try.f5 false true false false W args v W' := by
  have hW' := hW
  obtain ⟨p, q, hA0, hV, rfl, hfz, hnd⟩ := hW
  have hA : DataW.TrodAll enc Try.prog W 0 (fun _ => true) true Try.f5.params.toList args.toList ds p := hA0
  rw [Try.params5] at hA hval
  obtain ⟨v0, v1, v2, d0, d1, d2, p0, p1, p2, rfl, rfl, rfl, h0, h1, h2⟩ := trodAll_three hA
  obtain ⟨rfl, rfl⟩ := trodVars_none hV
  obtain ⟨n0, rfl, _⟩ := open_num uint (hval 0 _ v0 rfl rfl) h0
  obtain ⟨sp1, n1, c1, xs1, rfl, hx1, _, _⟩ := open_its (hval 1 _ v1 rfl rfl) h1
  obtain ⟨sp2, n2, c2, xs2, rfl, hx2⟩ := open_moves (hval 2 _ v2 rfl rfl) h2
  refine (c_FnExactMIter (h := W.heap) hx1 hx2 (BaC.start _) W rfl).mono fun e W' ⟨v, he, x, r, hr, post, ⟨hr1, hp⟩, hs⟩ => ?_
  subst hr1; subst hp; subst hr
  exact ⟨_, he, post_true rfl rfl (by kernel_rfl) hW' rfl (below_of x hs)⟩
set_option maxRecDepth 100000 in
theorem l_MIter (os : Os) (started : os.Started) (H' : Type) (enc : TypeId × Value → H') :
    ReturnsInHanded {} Try.checked os 5 .any (Rows.fnExactMIterSpec.pre6 enc Try.prog Try.f5 Rows.fnExactMIterRow.domain false) (Rows.fnExactMIterSpec.post enc Try.prog Try.f5 false true false false) := by
  refine returnsInHanded_of_change (C := Try.checked) own started (by kernel_rfl) Try.func5
    (ChangeSpec.witness6 (enc := enc) (C := Try.checked) false ⟨#[], #[.int .i64 0, .slice none 0 0, .slice none 0 0], []⟩ 8 (by kernel_rfl) (by kernel_rfl) (by kernel_rfl) (by kernel_rfl)) ?_
  intro W base args ds gs before hval hW _ _
  exact d_MIter H' enc W base args ds gs before hval hW
theorem mIter_holds : Rows.FnExactMIterSaid :=
  OpenClaim.holds_of_wide 5 Try.f5 rfl rfl rfl rfl rfl rfl rfl ⟨rfl, rfl, rfl, rfl, rfl⟩ rfl rfl rfl rfl rfl (by kernel_rfl) Try.func5 (by kernel_rfl)
    (of_decide_eq_true (by kernel_rfl)) (by unfold Func.isWrapper; first | (rw [if_pos (by decide +kernel)]; kernel_rfl) | (rw [if_neg (by decide +kernel)]; exact ⟨rfl, rfl⟩))
    (fun os started H' enc _ => l_MIter os started H' enc)
end Go.Proofs.Ytlmiafbcgfegpaa
