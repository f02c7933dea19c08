/-
  The row of FnExactBDescendHint. Conditions: none.
-/
import Derived.Test.YtlhbdmjeomffhaaLiftG
import Derived.Test.YtlhbdmjeomffhaaLawBD
import Derived.Test.YtlhbdmjeomffhaaLiftV
set_option linter.unusedVariables false
set_option linter.unusedSimpArgs false
set_option linter.unusedSectionVars false
set_option maxRecDepth 100000
namespace Go.Proofs.Ytlhbdmjeomffhaa
open Go Go.ChangeShapes Go.WideShapes Go.ChangeAt Go.RowKit
theorem d_BDescendHint (H' : Type) (enc : TypeId × Value → H') (W : World) (base : Nat) (args : Array Value) (ds gs : List (DataW H')) (before : List MemPlace)
    (hval : ∀ (j : Nat) t v, Try.f8.params[j]? = some t → args[j]? = some v → Value.okWide Try.prog W .any base t v)
    (hW : DataW.Whole enc Try.prog Try.f8.params.toList Rows.fnExactBDescendHintSpec.vars false W args.toList ds gs before) :
    Calls Try.prog 8 args W fun e W' => ∃ v, e = .returned v ∧ Rows.fnExactBDescendHintSpec.post enc Try.prog Try.f8 false true false false W args v W' := by
  have hW' := hW
  obtain ⟨p, q, hA0, hV, rfl, hfz, hnd⟩ := hW
  have hA : DataW.TrodAll enc Try.prog W 0 (fun _ => true) true Try.f8.params.toList args.toList ds p := hA0
  rw [Try.params8] at hA hval
  obtain ⟨v0, v1, v2, v3, v4, d0, d1, d2, d3, d4, p0, p1, p2, p3, p4, rfl, rfl, rfl, h0, h1, h2, h3, h4⟩ := trodAll_five hA
  obtain ⟨rfl, rfl⟩ := trodVars_none hV
  obtain ⟨op0, on0, oc0, o0, n0, b0, rfl, hx0⟩ := open_make (hval 0 _ v0 rfl rfl) h0
  obtain ⟨sp1, n1, c1, xs1, rfl, hx1, _, _⟩ := open_its (hval 1 _ v1 rfl rfl) h1
  obtain ⟨n2, rfl, _⟩ := open_bool ubool (hval 2 _ v2 rfl rfl) h2
  obtain ⟨a3, b3, rfl⟩ := open_item (hval 3 _ v3 rfl rfl) h3
  obtain ⟨n4, rfl, _⟩ := open_num uint (hval 4 _ v4 rfl rfl) h4
  refine (c_FnExactBDescendHint (h := W.heap) (x := (a3, b3)) hx0 hx1 (BaC.start _) W rfl).mono fun e W' ⟨v, he, x, r, hr, post, ⟨hr1, hp⟩, hs⟩ => ?_
  subst hr1; subst hp; subst hr
  exact ⟨_, he, post_true rfl rfl (by kernel_rfl) hW' rfl (below_of x hs)⟩
set_option maxRecDepth 100000 in
theorem l_BDescendHint (os : Os) (started : os.Started) (H' : Type) (enc : TypeId × Value → H') :
    ReturnsInHanded {} Try.checked os 8 .any (Rows.fnExactBDescendHintSpec.pre6 enc Try.prog Try.f8 Rows.fnExactBDescendHintRow.domain false) (Rows.fnExactBDescendHintSpec.post enc Try.prog Try.f8 false true false false) := by
  refine returnsInHanded_of_change (C := Try.checked) own started (by kernel_rfl) Try.func8
    (ChangeSpec.witness6 (enc := enc) (C := Try.checked) false ⟨#[], #[.agg #[.slice none 0 0, .int .i64 0, .bool false], .slice none 0 0, .bool false, .agg #[.int .i64 0, .int .i64 0], .int .i64 0], []⟩ 8 (by kernel_rfl) (by kernel_rfl) (by kernel_rfl) (by kernel_rfl)) ?_
  intro W base args ds gs before hval hW _ _
  exact d_BDescendHint H' enc W base args ds gs before hval hW
theorem bDescendHint_holds : Rows.FnExactBDescendHintSaid :=
  OpenClaim.holds_of_wide 8 Try.f8 rfl rfl rfl rfl rfl rfl rfl ⟨rfl, rfl, rfl, rfl, rfl⟩ rfl rfl rfl rfl rfl (by kernel_rfl) Try.func8 (by kernel_rfl)
    (of_decide_eq_true (by kernel_rfl)) (by unfold Func.isWrapper; first | (rw [if_pos (by decide +kernel)]; kernel_rfl) | (rw [if_neg (by decide +kernel)]; exact ⟨rfl, rfl⟩))
    (fun os started H' enc _ => l_BDescendHint os started H' enc)
end Go.Proofs.Ytlhbdmjeomffhaa
