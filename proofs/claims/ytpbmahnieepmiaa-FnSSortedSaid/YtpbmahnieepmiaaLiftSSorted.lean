/-
  The row of FnSSorted. Conditions: none.
-/
import Derived.Test.YtpbmahnieepmiaaLift
import Derived.Test.YtpbmahnieepmiaaLawSSort
set_option linter.unusedVariables false
set_option linter.unusedSimpArgs false
set_option linter.unusedSectionVars false
set_option maxRecDepth 100000
namespace Go.Proofs.Ytpbmahnieepmiaa
open Go Go.ChangeShapes Go.WideShapes Go.ChangeAt Go.RowKit
theorem d_SSorted (H' : Type) (enc : TypeId × Value → H') (W : World) (base : Nat) (args : Array Value) (ds gs : List (DataW H')) (before : List MemPlace)
    (hval : ∀ (j : Nat) t v, Try.f8.params[j]? = some t → args[j]? = some v → Value.okWide Try.prog W .any base t v)
    (hW : DataW.Whole enc Try.prog Try.f8.params.toList Rows.fnSSortedSpec.vars false W args.toList ds gs before) :
    Calls Try.prog 8 args W fun e W' => ∃ v, e = .returned v ∧ Rows.fnSSortedSpec.post enc Try.prog Try.f8 false true false false W args v W' := by
  have hW' := hW
  obtain ⟨p, q, hA0, hV, rfl, hfz, hnd⟩ := hW
  have hA : DataW.TrodAll enc Try.prog W 0 (fun _ => true) true Try.f8.params.toList args.toList ds p := hA0
  rw [Try.params8] at hA hval
  obtain ⟨v0, d0, rfl, rfl, h0⟩ := trodAll_one hA
  obtain ⟨rfl, rfl⟩ := trodVars_none hV
  obtain ⟨sp0, n0, c0, xs0, rfl, hx0, _, _⟩ := open_nums (P := Try.prog) (e := ty_int) (by kernel_rfl) uint (by kernel_rfl) (hval 0 _ v0 rfl rfl) h0
  refine (c_FnSSorted (h := W.heap) hx0 (BaC.start _) W rfl).mono fun e W' ⟨v, he, x, r, hr, post, ⟨hr1, hp⟩, hs⟩ => ?_
  subst hr1; subst hp; subst hr
  exact ⟨_, he, post_true rfl rfl (by kernel_rfl) hW' rfl (below_of x hs)⟩
set_option maxRecDepth 100000 in
theorem l_SSorted (os : Os) (started : os.Started) (H' : Type) (enc : TypeId × Value → H') :
    ReturnsInHanded {} Try.checked os 8 .any (Rows.fnSSortedSpec.pre6 enc Try.prog Try.f8 Rows.fnSSortedRow.domain false) (Rows.fnSSortedSpec.post enc Try.prog Try.f8 false true false false) := by
  refine returnsInHanded_of_change (C := Try.checked) own started (by kernel_rfl) Try.func8
    (ChangeSpec.witness6 (enc := enc) (C := Try.checked) false ⟨#[], #[.slice none 0 0], []⟩ 8 (by kernel_rfl) (by kernel_rfl) (by kernel_rfl) (by kernel_rfl)) ?_
  intro W base args ds gs before hval hW _ _
  exact d_SSorted H' enc W base args ds gs before hval hW
theorem sSorted_holds : Rows.FnSSortedSaid :=
  OpenClaim.holds_of_wide 8 Try.f8 rfl rfl rfl rfl rfl rfl rfl ⟨rfl, rfl, rfl, rfl, rfl⟩ rfl rfl rfl rfl rfl (by kernel_rfl) Try.func8 (by kernel_rfl)
    (of_decide_eq_true (by kernel_rfl)) (by unfold Func.isWrapper; first | (rw [if_pos (by decide +kernel)]; kernel_rfl) | (rw [if_neg (by decide +kernel)]; exact ⟨rfl, rfl⟩))
    (fun os started H' enc _ => l_SSorted os started H' enc)
end Go.Proofs.Ytpbmahnieepmiaa
