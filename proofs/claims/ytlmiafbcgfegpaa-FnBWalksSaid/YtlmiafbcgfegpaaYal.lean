/-
  Degrees that fit; a tree that is used after all. Conditions: none.
-/
import Derived.Test.YtlmiafbcgfegpaaYsq
set_option linter.unusedVariables false
set_option linter.unusedSimpArgs false
set_option linter.unusedSectionVars false
set_option maxRecDepth 100000
namespace Go.Proofs.Ytlmiafbcgfegpaa
open Go
def M_laws_fits (a00p : Option PA) (a00l : Nat) (a00c : Nat) (a01 : Int) (a02 : Bool) : M :=
  .alloc ty_impl_Make [.sl (a00p) (a00l) (a00c), .int .i64 (a01), .bool (a02)] fun n0 =>
  .load (n0, 1) (.int .i64) fun i1 =>
  .call fn_spec_Fits [.c (.int .i64 (i1))] false [.c (.bool)] fun r2 =>
  .done .ret [.c (.bool (r2.fst))]
theorem den_laws_fits (a00p : Option PA) (a00l : Nat) (a00c : Nat) (a01 : Int) (a02 : Bool) : denFn Try.prog Try.f10 [.agg [.sl a00p a00l a00c, .int .i64 a01, .bool a02]] = M_laws_fits a00p a00l a00c a01 a02 := by kernel_rfl
theorem hc_laws_fits (a00p : Option PA) (a00l : Nat) (a00c : Nat) (a01 : Int) (a02 : Bool) {h : H} {R : Value → H → Prop} (hw : wp Try.prog (M_laws_fits a00p a00l a00c a01 a02) (Ret R) h) : HC Try.prog fn_laws_fits (List.map AV.val [.agg [.sl a00p a00l a00c, .int .i64 a01, .bool a02]]).toArray h R :=
  den_calls hmix Try.func10 (of_decide_eq_true rfl) (by rw [den_laws_fits]; exact hw)
section
variable {h : H}
theorem c_fits {op : Option PA} {on oc : Nat} {d : Int} {nl : Bool} {G : PA → Prop} (hG : Star [] h G) :
    HT Try.prog fn_laws_fits [.agg [.sl op on oc, .int .i64 d, .bool nl]] false [.c .bool] h fun r h' => ∃ post, (r = (decide (d = 0 ∨ 2 ≤ d ∧ d ≤ 128), ()) ∧ post = []) ∧ St h G post h' := by
  apply hc_laws_fits
  unfold M_laws_fits
  refine st_alloc (St.start hG) fun n _ S => ?_
  refine ld_int S rfl ?_
  refine w_callT c_Fits ?_
  rintro _ _ ⟨rfl, rfl⟩
  exact rt_1 rfl ⟨_, ⟨rfl, rfl⟩, S.drop⟩
end
end Go.Proofs.Ytlmiafbcgfegpaa
