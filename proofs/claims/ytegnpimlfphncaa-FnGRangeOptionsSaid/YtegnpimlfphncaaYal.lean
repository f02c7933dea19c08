/-
  Degrees that fit; a tree that is used after all. Conditions: none.
-/
import Derived.Test.YtegnpimlfphncaaYsq
set_option linter.unusedVariables false
set_option linter.unusedSimpArgs false
set_option linter.unusedSectionVars false
set_option maxRecDepth 100000
namespace Go.Proofs.Ytegnpimlfphncaa
open Go
def M_laws_fits (a00p : Option PA) (a00l : Nat) (a00c : Nat) (a01 : Int) (a02 : Bool) : M :=
 .alloc ty_impl_Make [.sl (a00p) (a00l) (a00c), .int .i64 (a01), .bool (a02)] fun n0 =>
 .load (n0, 1) (.int .i64) fun i1 =>
 .call fn_spec_Fits [.c (.int .i64 (i1))] false [.c (.bool)] fun r2 =>
 .done .ret [.c (.bool (r2.fst))]
theorem den_laws_fits (a00p : Option PA) (a00l : Nat) (a00c : Nat) (a01 : Int) (a02 : Bool) : denFn Try.prog Try.f10 [.agg [.sl a00p a00l a00c, .int .i64 a01, .bool a02]] = M_laws_fits a00p a00l a00c a01 a02 := by kernel_rfl
theorem hc_laws_fits (a00p : Option PA) (a00l : Nat) (a00c : Nat) (a01 : Int) (a02 : Bool) {h : H} {R : Value → H → Prop} (hw : wp Try.prog (M_laws_fits a00p a00l a00c a01 a02) (Ret R) h) : HC Try.prog fn_laws_fits (List.map AV.val [.agg [.sl a00p a00l a00c, .int .i64 a01, .bool a02]]).toArray h R :=
  den_calls hmix Try.func10 (of_decide_eq_true rfl) (by rw [den_laws_fits]; exact hw)
def M_laws_alive  : M :=
 .call fn_laws_exMake [] false [.agg [.sl, .int .i64, .bool]] fun r0 =>
 .call fn_laws_exItems [] false [.c (.sl)] fun r1 =>
 .guard (((0 : Int) ≤ 3) ∧ ((3 : Int) ≤ (↑r1.fst.snd.snd : Int))) <|
 .call fn_impl_GItems [.agg [.sl (r0.fst.fst.fst) (r0.fst.fst.snd.fst) (r0.fst.fst.snd.snd), .int .i64 (r0.fst.snd.fst), .bool (r0.fst.snd.snd.fst)], .c (.sl (slBase r1.fst.fst r1.fst.snd.snd 0 2) (3) (r1.fst.snd.snd - 0))] false [.c (.sl)] fun r2 =>
 .done .ret [.c (.bool ((↑r2.fst.snd.fst : Int) == 3))]
theorem den_laws_alive  : denFn Try.prog Try.f11 [] = M_laws_alive  := by kernel_rfl
theorem hc_laws_alive  {h : H} {R : Value → H → Prop} (hw : wp Try.prog (M_laws_alive ) (Ret R) h) : HC Try.prog fn_laws_alive (List.map AV.val []).toArray h R :=
  den_calls hmix Try.func11 (of_decide_eq_true rfl) (by rw [den_laws_alive]; exact hw)
section
variable {h : H}
theorem c_fits {op : Option PA} {on oc : Nat} {d : Int} {nl : Bool} {G : PA → Prop} (hG : Star [] h G) :
    HT Try.prog fn_laws_fits [.agg [.sl op on oc, .int .i64 d, .bool nl]] false [.c .bool] h fun r h' => ∃ post, (r = (decide (d = 0 ∨ 2 ≤ d ∧ d ≤ 128), ()) ∧ post = []) ∧ St h G post h' := by
  apply hc_laws_fits
  unfold M_laws_fits
  refine st_alloc (St.start hG) fun n _ S => ?_
  refine ld_int S rfl ?_
  refine w_callT c_Fits ?_
  rintro _ _ ⟨rfl, rfl⟩
  exact rt_1 rfl ⟨_, ⟨rfl, rfl⟩, S.drop⟩
theorem c_alive {G : PA → Prop} (hG : Star [] h G) : HT Try.prog fn_laws_alive [] false [.c .bool] h fun r h' => ∃ post, (r = (true, ()) ∧ post = []) ∧ St h G post h' := by
  apply hc_laws_alive
  unfold M_laws_alive
  have S := St.start hG
  refine st_callT S [] (fun G hG => c_exMake hG) ?_
  rintro _ _ _ ⟨rfl, rfl⟩ S
  dsimp only [List.cons_append, List.nil_append] at S
  refine st_callT S [] (fun G hG => c_exItems hG) ?_
  rintro _ _ _ ⟨ne, rfl, rfl⟩ S
  dsimp only [List.cons_append, List.nil_append] at S
  refine w_guard ⟨by decide, by show (3 : Int) ≤ ((7 : Nat) : Int); decide⟩ ?_
  have hp := (Rdr.ow (L := LT) (xs := exI) (p := (ne, 0)) (n := 7) (k := 0) rfl).part 0 3 (by decide)
  refine st_callT S [.ow (ne, 0)] (fun G hG => c_GItems (o := []) Rdr.nil (by decide) (by decide) hp (by decide) hG) ?_
  rintro _ _ _ ⟨s, rfl, hs, rfl⟩ S
  dsimp only [List.cons_append, List.nil_append] at S
  have hl : s.2.1 = 3 := hs.1
  refine rt_1 rfl ⟨_, ⟨?_, rfl⟩, (S.dels [.ow (ne, 0), .sl s])⟩
  rw [hl]; rfl
end
end Go.Proofs.Ytegnpimlfphncaa
