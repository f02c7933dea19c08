/-
  The row of FnExactWAscend. Conditions: none.
-/
import Derived.Test.YtgniflegbdeokaaLiftW
import Derived.Test.YtgniflegbdeokaaLawWA
set_option linter.unusedVariables false
set_option linter.unusedSimpArgs false
set_option linter.unusedSectionVars false
set_option maxRecDepth 100000
namespace Go.Proofs.Ytgniflegbdeokaa
open Go Go.ChangeShapes Go.WideShapes Go.ChangeAt Go.RowKit
theorem d_WAscend (H' : Type) (enc : TypeId × Value → H') (W : World) (base : Nat) (args : Array Value) (ds gs : List (DataW H')) (before : List MemPlace)
    (hval : ∀ (j : Nat) t v, Try.f6.params[j]? = some t → args[j]? = some v → Value.okWide Try.prog W .any base t v)
    (hW : DataW.Whole enc Try.prog Try.f6.params.toList Rows.fnExactWAscendSpec.vars false W args.toList ds gs before) :
    Calls Try.prog 6 args W fun e W' => ∃ v, e = .returned v ∧ Rows.fnExactWAscendSpec.post enc Try.prog Try.f6 false true false false W args v W' := by
  have hW' := hW
  obtain ⟨p, q, hA0, hV, rfl, hfz, hnd⟩ := hW
  have hA : DataW.TrodAll enc Try.prog W 0 (fun _ => true) true Try.f6.params.toList args.toList ds p := hA0
  rw [Try.params6] at hA hval
  obtain ⟨v0, v1, v2, v3, d0, d1, d2, d3, p0, p1, p2, p3, rfl, rfl, rfl, h0, h1, h2, h3⟩ := trodAll_four hA
  obtain ⟨rfl, rfl⟩ := trodVars_none hV
  obtain ⟨n0, rfl, _⟩ := open_num uint (hval 0 _ v0 rfl rfl) h0
  obtain ⟨sp1, n1, c1, xs1, rfl, hx1⟩ := open_words (hval 1 _ v1 rfl rfl) h1
  obtain ⟨s2, rfl⟩ := open_str (hval 2 _ v2 rfl rfl) h2
  obtain ⟨n3, rfl, _⟩ := open_num uint (hval 3 _ v3 rfl rfl) h3
  refine (c_FnExactWAscend (h := W.heap) hx1 (BaC.start _) W rfl).mono fun e W' ⟨v, he, x, r, hr, post, ⟨hr1, hp⟩, hs⟩ => ?_
  subst hr1; subst hp; subst hr
  exact ⟨_, he, post_true rfl rfl (by kernel_rfl) hW' rfl (below_of x hs)⟩
set_option maxRecDepth 100000 in
theorem l_WAscend (os : Os) (started : os.Started) (H' : Type) (enc : TypeId × Value → H') :
    ReturnsInHanded {} Try.checked os 6 .any (Rows.fnExactWAscendSpec.pre6 enc Try.prog Try.f6 Rows.fnExactWAscendRow.domain false) (Rows.fnExactWAscendSpec.post enc Try.prog Try.f6 false true false false) := by
  refine returnsInHanded_of_change (C := Try.checked) own started (by kernel_rfl) Try.func6
    (ChangeSpec.witness6 (enc := enc) (C := Try.checked) false ⟨#[], #[.int .i64 0, .slice none 0 0, .string ⟨#[]⟩, .int .i64 0], []⟩ 8 (by kernel_rfl) (by kernel_rfl) (by kernel_rfl) (by kernel_rfl)) ?_
  intro W base args ds gs before hval hW _ _
  exact d_WAscend H' enc W base args ds gs before hval hW
theorem wAscend_holds : Rows.FnExactWAscendSaid :=
  OpenClaim.holds_of_wide 6 Try.f6 rfl rfl rfl rfl rfl rfl rfl ⟨rfl, rfl, rfl, rfl, rfl⟩ rfl rfl rfl rfl rfl (by kernel_rfl) Try.func6 (by kernel_rfl)
    (of_decide_eq_true (by kernel_rfl)) (by unfold Func.isWrapper; first | (rw [if_pos (by decide +kernel)]; kernel_rfl) | (rw [if_neg (by decide +kernel)]; exact ⟨rfl, rfl⟩))
    (fun os started H' enc _ => l_WAscend os started H' enc)
end Go.Proofs.Ytgniflegbdeokaa
