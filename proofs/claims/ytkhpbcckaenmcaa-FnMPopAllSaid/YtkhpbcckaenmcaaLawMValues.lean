/-
  The law FnExactMValues. Conditions: none.
-/
import Derived.Test.YtkhpbcckaenmcaaIm
import Derived.Test.YtkhpbcckaenmcaaVbmi
set_option linter.unusedVariables false
set_option linter.unusedSimpArgs false
set_option linter.unusedSectionVars false
set_option maxRecDepth 100000
namespace Go.Proofs.Ytkhpbcckaenmcaa
open Go

def M_impl_MValues (a0 : Int) (a1p : Option PA) (a1l : Nat) (a1c : Nat) : M :=
  .call fn_impl_growMap [.c (.int .i64 (a0)), .c (.sl (a1p) (a1l) (a1c))] false [.c (.ptr)] fun r0 =>
  .call fn_mi_Values [.c (.ptr (r0.fst))] false [.c (.sl)] fun r1 =>
  .done .ret [.c (.sl (r1.fst.fst) (r1.fst.snd.fst) (r1.fst.snd.snd))]

theorem den_impl_MValues (a0 : Int) (a1p : Option PA) (a1l : Nat) (a1c : Nat) : denFn Try.prog Try.f23 [.c (.int .i64 a0), .c (.sl a1p a1l a1c)] = M_impl_MValues a0 a1p a1l a1c := by kernel_rfl
theorem hc_impl_MValues (a0 : Int) (a1p : Option PA) (a1l : Nat) (a1c : Nat) {h : H} {R : Value → H → Prop} (hw : wp Try.prog (M_impl_MValues a0 a1p a1l a1c) (Ret R) h) : HC Try.prog fn_impl_MValues (List.map AV.val [.c (.int .i64 a0), .c (.sl a1p a1l a1c)]).toArray h R :=
  den_calls hmix Try.func23 (of_decide_eq_true rfl) (by rw [den_impl_MValues]; exact hw)

def M_laws_mValues (a0 : Int) (a1p : Option PA) (a1l : Nat) (a1c : Nat) : M :=
  .call fn_impl_MValues [.c (.int .i64 (a0)), .c (.sl (a1p) (a1l) (a1c))] false [.c (.sl)] fun r0 =>
  .call fn_spec_Tree [.c (.sl none (0) (0)), .c (.sl (a1p) (a1l) (a1c))] false [.c (.sl)] fun r1 =>
  .call fn_spec_Values [.c (.sl (r1.fst.fst) (r1.fst.snd.fst) (r1.fst.snd.snd))] false [.c (.sl)] fun r2 =>
  .call fn_slices_Equal_int_int [.c (.sl (r0.fst.fst) (r0.fst.snd.fst) (r0.fst.snd.snd)), .c (.sl (r2.fst.fst) (r2.fst.snd.fst) (r2.fst.snd.snd))] false [.c (.bool)] fun r3 =>
  .done .ret [.c (.bool (r3.fst))]

theorem den_laws_mValues (a0 : Int) (a1p : Option PA) (a1l : Nat) (a1c : Nat) : denFn Try.prog Try.f17 [.c (.int .i64 a0), .c (.sl a1p a1l a1c)] = M_laws_mValues a0 a1p a1l a1c := by kernel_rfl
theorem hc_laws_mValues (a0 : Int) (a1p : Option PA) (a1l : Nat) (a1c : Nat) {h : H} {R : Value → H → Prop} (hw : wp Try.prog (M_laws_mValues a0 a1p a1l a1c) (Ret R) h) : HC Try.prog fn_laws_mValues (List.map AV.val [.c (.int .i64 a0), .c (.sl a1p a1l a1c)]).toArray h R :=
  den_calls hmix Try.func17 (of_decide_eq_true rfl) (by rw [den_laws_mValues]; exact hw)

def M_laws_FnExactMValues (a0 : Int) (a1p : Option PA) (a1l : Nat) (a1c : Nat) : M :=
  .ite (decide ((↑a1l : Int) > 2147483647))
  (.done .ret [.c (.tt)])
  (.bind none (.call fn_laws_exItems [] false [.c (.sl)] fun r0 =>
      .call fn_laws_mValues [.c (.int .i64 (2)), .c (.sl (r0.fst.fst) (r0.fst.snd.fst) (r0.fst.snd.snd))] false [.c (.bool)] fun r1 =>
      .ite (r1.fst)
      (.call fn_spec_Fits [.c (.int .i64 (a0))] false [.c (.bool)] fun r2 =>
        .ite (r2.fst)
        (.ite (!decide (a0 > 0))
          (.done .normal [.c (.tt)])
          (.call fn_laws_mValues [.c (.int .i64 (a0)), .c (.sl (a1p) (a1l) (a1c))] false [.c (.bool)] fun r3 =>
            .done .normal [.c (.bool (r3.fst))]))
        (.done .normal [.c (.tt)]))
      (.done .normal [.c (.ff)])) [.c (.bool)] fun x4 =>
    .done .ret [.c (.bool (x4.fst))])

theorem den_laws_FnExactMValues (a0 : Int) (a1p : Option PA) (a1l : Nat) (a1c : Nat) : denFn Try.prog Try.f4 [.c (.int .i64 a0), .c (.sl a1p a1l a1c)] = M_laws_FnExactMValues a0 a1p a1l a1c := by kernel_rfl
theorem hc_laws_FnExactMValues (a0 : Int) (a1p : Option PA) (a1l : Nat) (a1c : Nat) {h : H} {R : Value → H → Prop} (hw : wp Try.prog (M_laws_FnExactMValues a0 a1p a1l a1c) (Ret R) h) : HC Try.prog fn_laws_FnExactMValues (List.map AV.val [.c (.int .i64 a0), .c (.sl a1p a1l a1c)]).toArray h R :=
  den_calls hmix Try.func4 (of_decide_eq_true rfl) (by rw [den_laws_FnExactMValues]; exact hw)


section
variable {h : H}
theorem c_MValues {c : Ck} {d : Int} (hd : d ≤ 536870912) {xs : List IV} {sp : Option PA} {n cap : Nat} (hx : Rdr c (sp, n, cap) LT xs) (hxl : xs.length ≤ 2147483647) {G : PA → Prop} (hG : Star [c] h G) :
    HT Try.prog fn_impl_MValues [.c (.int .i64 d), .c (.sl sp n cap)] false [.c .sl] h fun r h' => ∃ post, (∃ s : SlT, r = (s, ()) ∧ OwnL LN s (vO (treeO [] xs)) ∧ post = [c, SlC s LN.sz (LN.flat (vO (treeO [] xs)))]) ∧ St h G post h' := by
  apply hc_impl_MValues
  unfold M_impl_MValues
  have htl := treeO_len [] xs
  have S := St.start hG
  refine st_callT S [.ck c] (fun G hG => c_growMap hd hx hxl hG) ?_
  rintro _ _ _ ⟨m, rfl, rfl⟩ S
  dsimp only [List.cons_append, List.nil_append] at S
  refine st_callV S [.mp (m, 0)] (args' := [.c (.addr (m, 0))]) rfl (fun G hG => MI.c_Values (by omega) hG) ?_
  rintro _ _ _ ⟨s, rfl, hs, rfl⟩ S
  dsimp only [List.cons_append, List.nil_append] at S
  exact rt_1 rfl ⟨_, ⟨s, rfl, hs, rfl⟩, S.only [.ck c, .sl s]⟩
theorem c_mValues {c : Ck} {d : Int} (hd : d ≤ 536870912) {xs : List IV} {sp : Option PA} {n cap : Nat} (hx : Rdr c (sp, n, cap) LT xs) (hxl : xs.length ≤ 2147483647) {G : PA → Prop} (hG : Star [c] h G) :
    HT Try.prog fn_laws_mValues [.c (.int .i64 d), .c (.sl sp n cap)] false [.c .bool] h fun r h' => ∃ post, (r = (true, ()) ∧ post = [c]) ∧ St h G post h' := by
  apply hc_laws_mValues
  unfold M_laws_mValues
  have htl := treeO_len [] xs
  have S := St.start hG
  refine st_callT S [.ck c] (fun G hG => c_MValues hd hx hxl hG) ?_
  rintro _ _ _ ⟨s1, rfl, h1, rfl⟩ S
  dsimp only [List.cons_append, List.nil_append] at S
  refine st_callT S [.ck c] (fun G hG => c_Tree Rdr.nil (by decide) hx (by omega) hG) ?_
  rintro _ _ _ ⟨s2, rfl, h2, rfl⟩ S
  dsimp only [List.cons_append, List.nil_append] at S
  refine st_callT S [.sl s2] (fun G hG => c_specValues h2.rdr (by omega) hG) ?_
  rintro _ _ _ ⟨s3, rfl, h3, rfl⟩ S
  dsimp only [List.cons_append, List.nil_append] at S
  have S := (S.ats [.sl s1, .sl s3])
  refine st_callT (l := StC [SlC s1 LN.sz (LN.flat (vO (treeO [] xs))), SlC s3 LN.sz (LN.flat (vO (treeO [] xs)))] :: _) (St.st_in (m := [_, _]) S) [.ck (StC [SlC s1 LN.sz (LN.flat (vO (treeO [] xs))), SlC s3 LN.sz (LN.flat (vO (treeO [] xs)))])] (fun G hG => c_EqualInts (Rdr.st (i := 0) rfl h1.rdr) (Rdr.st (i := 1) rfl h3.rdr) (by rw [vO_len]; omega) hG) ?_
  rintro _ _ _ ⟨rfl, rfl⟩ S
  dsimp only [List.cons_append, List.nil_append] at S
  have S := St.st_out S
  dsimp only [List.cons_append, List.nil_append] at S
  exact rt_1 rfl ⟨_, ⟨by simp, rfl⟩, S.only [.ck c]⟩
theorem c_FnExactMValues {hI : H} {d : Int} {xs : List IV} {sp : Option PA} {n cap : Nat} (hx : Rdr (BaC hI) (sp, n, cap) LT xs) {G : PA → Prop} (hG : Star [BaC hI] h G) :
    HT Try.prog fn_laws_FnExactMValues [.c (.int .i64 d), .c (.sl sp n cap)] false [.c .bool] h fun r h' => ∃ post, (r = (true, ()) ∧ post = [BaC hI]) ∧ St h G post h' := by
  apply hc_laws_FnExactMValues
  unfold M_laws_FnExactMValues
  have hn : n = xs.length := hx.1
  have S := St.start hG
  by_cases hbig : n > 2147483647
  · exact w_true (decide_eq_true (by omega)) (rt_1 rfl ⟨_, ⟨rfl, rfl⟩, S⟩)
  refine w_false (decide_eq_false (by omega)) (w_bnd ?_)
  refine st_callT S [] (fun G hG => c_exItems hG) ?_
  rintro _ _ _ ⟨ne, rfl, rfl⟩ S
  dsimp only [List.cons_append, List.nil_append] at S
  refine st_callT S [.ck (Ow (ne, 0) (LT.flat exI) 0)] (fun G hG => c_mValues (d := 2) (xs := exI) (by omega) (Rdr.ow (xs := exI) rfl) (by decide) hG) ?_
  rintro _ _ _ ⟨rfl, rfl⟩ S
  dsimp only [List.cons_append, List.nil_append] at S
  refine w_true rfl ?_
  refine st_callR S [] (fun G hG => c_Fits) ?_
  rintro _ rfl
  by_cases hf : d = 0 ∨ 2 ≤ d ∧ d ≤ 128
  · refine w_true (decide_eq_true hf) ?_
    by_cases h0 : d > 0
    · refine w_false (by rw [decide_eq_true h0]; rfl) ?_
      refine st_callT S [.ck (BaC hI)] (fun G hG => c_mValues (d := d) (by omega) hx (by omega) hG) ?_
      rintro _ _ _ ⟨rfl, rfl⟩ S
      dsimp only [List.cons_append, List.nil_append] at S
      exact bd_n rfl (rt_1 rfl ⟨_, ⟨rfl, rfl⟩, S.only [.ck (BaC hI)]⟩)
    · exact w_true (by rw [decide_eq_false h0]; rfl) (bd_n rfl (rt_1 rfl ⟨_, ⟨rfl, rfl⟩, S.only [.ck (BaC hI)]⟩))
  · exact w_false (decide_eq_false hf) (bd_n rfl (rt_1 rfl ⟨_, ⟨rfl, rfl⟩, S.only [.ck (BaC hI)]⟩))
end
end Go.Proofs.Ytkhpbcckaenmcaa
