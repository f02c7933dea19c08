/-
  The row of FnExactGDeleteAscend. Conditions: none.
-/
import Derived.Test.YtegnpimlfphncaaLiftG
import Derived.Test.YtegnpimlfphncaaLawGDelAsc
set_option linter.unusedVariables false
set_option linter.unusedSimpArgs false
set_option linter.unusedSectionVars false
set_option maxRecDepth 100000
namespace Go.Proofs.Ytegnpimlfphncaa
open Go Go.ChangeShapes Go.WideShapes Go.ChangeAt Go.RowKit
theorem d_GDeleteAscend (H' : Type) (enc : TypeId × Value → H') (W : World) (base : Nat) (args : Array Value) (ds gs : List (DataW H')) (before : List MemPlace)
    (hval : ∀ (j : Nat) t v, Try.f3.params[j]? = some t → args[j]? = some v → Value.okWide Try.prog W .any base t v)
    (hW : DataW.Whole enc Try.prog Try.f3.params.toList Rows.fnExactGDeleteAscendSpec.vars false W args.toList ds gs before) :
    Calls Try.prog 3 args W fun e W' => ∃ v, e = .returned v ∧ Rows.fnExactGDeleteAscendSpec.post enc Try.prog Try.f3 false true false false W args v W' := by
  have hW' := hW
  obtain ⟨p, q, hA0, hV, rfl, hfz, hnd⟩ := hW
  have hA : DataW.TrodAll enc Try.prog W 0 (fun _ => true) true Try.f3.params.toList args.toList ds p := hA0
  rw [Try.params3] at hA hval
  obtain ⟨v0, v1, v2, v3, d0, d1, d2, d3, p0, p1, p2, p3, rfl, rfl, rfl, h0, h1, h2, h3⟩ := trodAll_four hA
  obtain ⟨rfl, rfl⟩ := trodVars_none hV
  obtain ⟨op0, on0, oc0, o0, n0, b0, rfl, hx0⟩ := open_make (hval 0 _ v0 rfl rfl) h0
  obtain ⟨sp1, n1, c1, xs1, rfl, hx1, _, _⟩ := open_its (hval 1 _ v1 rfl rfl) h1
  obtain ⟨a2, b2, rfl⟩ := open_item (hval 2 _ v2 rfl rfl) h2
  obtain ⟨sp3, n3, c3, xs3, rfl, hx3, _, _⟩ := open_nums (P := Try.prog) (e := ty_int) (by kernel_rfl) uint (by kernel_rfl) (hval 3 _ v3 rfl rfl) h3
  refine (c_FnExactGDeleteAscend (h := W.heap) (x := (a2, b2)) hx0 hx1 hx3 (BaC.start _) W rfl).mono fun e W' ⟨v, he, x, r, hr, post, ⟨hr1, hp⟩, hs⟩ => ?_
  subst hr1; subst hp; subst hr
  exact ⟨_, he, post_true rfl rfl (by kernel_rfl) hW' rfl (below_of x hs)⟩
set_option maxRecDepth 100000 in
theorem l_GDeleteAscend (os : Os) (started : os.Started) (H' : Type) (enc : TypeId × Value → H') :
    ReturnsInHanded {} Try.checked os 3 .any (Rows.fnExactGDeleteAscendSpec.pre6 enc Try.prog Try.f3 Rows.fnExactGDeleteAscendRow.domain false) (Rows.fnExactGDeleteAscendSpec.post enc Try.prog Try.f3 false true false false) := by
  refine returnsInHanded_of_change (C := Try.checked) own started (by kernel_rfl) Try.func3
    (ChangeSpec.witness6 (enc := enc) (C := Try.checked) false ⟨#[], #[.agg #[.slice none 0 0, .int .i64 0, .bool false], .slice none 0 0, .agg #[.int .i64 0, .int .i64 0], .slice none 0 0], []⟩ 8 (by kernel_rfl) (by kernel_rfl) (by kernel_rfl) (by kernel_rfl)) ?_
  intro W base args ds gs before hval hW _ _
  exact d_GDeleteAscend H' enc W base args ds gs before hval hW
theorem gDeleteAscend_holds : Rows.FnExactGDeleteAscendSaid :=
  OpenClaim.holds_of_wide 3 Try.f3 rfl rfl rfl rfl rfl rfl rfl ⟨rfl, rfl, rfl, rfl, rfl⟩ rfl rfl rfl rfl rfl (by kernel_rfl) Try.func3 (by kernel_rfl)
    (of_decide_eq_true (by kernel_rfl)) (by unfold Func.isWrapper; first | (rw [if_pos (by decide +kernel)]; kernel_rfl) | (rw [if_neg (by decide +kernel)]; exact ⟨rfl, rfl⟩))
    (fun os started H' enc _ => l_GDeleteAscend os started H' enc)
end Go.Proofs.Ytegnpimlfphncaa
