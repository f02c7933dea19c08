/-
  The law FnExactSLen. Conditions: none.
-/
import Derived.Test.YtpbmahnieepmiaaSst
set_option linter.unusedVariables false
set_option linter.unusedSimpArgs false
set_option linter.unusedSectionVars false
set_option maxRecDepth 100000
namespace Go.Proofs.Ytpbmahnieepmiaa
open Go
def M_laws_sLen (a0p : Option PA) (a0l : Nat) (a0c : Nat) : M :=
  .call fn_impl_SLen [.c (.sl (a0p) (a0l) (a0c))] false [.c (.int .i64)] fun r0 =>
  .call fn_spec_Items [.c (.sl (a0p) (a0l) (a0c))] false [.c (.sl)] fun r1 =>
  .call fn_spec_Tree [.c (.sl none (0) (0)), .c (.sl (r1.fst.fst) (r1.fst.snd.fst) (r1.fst.snd.snd))] false [.c (.sl)] fun r2 =>
  .done .ret [.c (.bool (r0.fst == (↑r2.fst.snd.fst : Int)))]
theorem den_laws_sLen (a0p : Option PA) (a0l : Nat) (a0c : Nat) : denFn Try.prog Try.f9 [.c (.sl a0p a0l a0c)] = M_laws_sLen a0p a0l a0c := by kernel_rfl
theorem hc_laws_sLen (a0p : Option PA) (a0l : Nat) (a0c : Nat) {h : H} {R : Value → H → Prop} (hw : wp Try.prog (M_laws_sLen a0p a0l a0c) (Ret R) h) : HC Try.prog fn_laws_sLen (List.map AV.val [.c (.sl a0p a0l a0c)]).toArray h R :=
  den_calls hmix Try.func9 (of_decide_eq_true rfl) (by rw [den_laws_sLen]; exact hw)
def M_laws_FnExactSLen (a0p : Option PA) (a0l : Nat) (a0c : Nat) : M :=
  .ite (decide ((↑a0l : Int) > 2147483647))
  (.done .ret [.c (.tt)])
  (.bind none (.alloc ty_int [.int .i64 (5), .int .i64 (3), .int .i64 (9), .int .i64 (3), .int .i64 (1)] fun n0 =>
      .call fn_laws_sLen [.c (.sl (some (n0, 0)) (5) (5))] false [.c (.bool)] fun r1 =>
      .ite (r1.fst)
      (.call fn_laws_sLen [.c (.sl (a0p) (a0l) (a0c))] false [.c (.bool)] fun r2 =>
        .done .normal [.c (.bool (r2.fst))])
      (.done .normal [.c (.ff)])) [.c (.bool)] fun x3 =>
    .done .ret [.c (.bool (x3.fst))])
theorem den_laws_FnExactSLen (a0p : Option PA) (a0l : Nat) (a0c : Nat) : denFn Try.prog Try.f3 [.c (.sl a0p a0l a0c)] = M_laws_FnExactSLen a0p a0l a0c := by kernel_rfl
theorem hc_laws_FnExactSLen (a0p : Option PA) (a0l : Nat) (a0c : Nat) {h : H} {R : Value → H → Prop} (hw : wp Try.prog (M_laws_FnExactSLen a0p a0l a0c) (Ret R) h) : HC Try.prog fn_laws_FnExactSLen (List.map AV.val [.c (.sl a0p a0l a0c)]).toArray h R :=
  den_calls hmix Try.func3 (of_decide_eq_true rfl) (by rw [den_laws_FnExactSLen]; exact hw)
section
variable {h : H}
theorem c_sLen {c : Ck} {xs : List Int} {sp : Option PA} {n cap : Nat} (hx : Rdr c (sp, n, cap) LN xs) (hxl : xs.length ≤ 2147483647) {G : PA → Prop} (hG : Star [c] h G) :
    HT Try.prog fn_laws_sLen [.c (.sl sp n cap)] false [.c .bool] h fun r h' => ∃ post, (r = (true, ()) ∧ post = [c]) ∧ St h G post h' := by
  apply hc_laws_sLen
  unfold M_laws_sLen
  refine st_callT (St.start hG) [.ck c] (fun G hG => c_SLen hx hxl hG) ?_
  rintro _ _ _ ⟨rfl, rfl⟩ S
  dsimp only [List.cons_append, List.nil_append] at S
  refine st_callT S [.ck c] (fun G hG => c_specItems hx (by omega) hG) ?_
  rintro _ _ _ ⟨s1, rfl, hs1, rfl⟩ S
  dsimp only [List.cons_append, List.nil_append] at S
  refine st_callT S [.sl s1] (fun G hG => c_treeKeys hs1.rdr (by omega) hG) ?_
  rintro _ _ _ ⟨s2, rfl, hs2, rfl⟩ S
  dsimp only [List.cons_append, List.nil_append] at S
  have e : s2.2.1 = (setO xs).length := hs2.1
  refine rt_1 rfl ⟨_, ⟨?_, rfl⟩, S.only [.ck c]⟩
  rw [e]; simp
def exS : List Int := [5, 3, 9, 3, 1]
theorem c_FnExactSLen {hI : H} {xs : List Int} {sp : Option PA} {n cap : Nat} (hx : Rdr (BaC hI) (sp, n, cap) LN xs) {G : PA → Prop} (hG : Star [BaC hI] h G) :
    HT Try.prog fn_laws_FnExactSLen [.c (.sl sp n cap)] false [.c .bool] h fun r h' => ∃ post, (r = (true, ()) ∧ post = [BaC hI]) ∧ St h G post h' := by
  apply hc_laws_FnExactSLen
  unfold M_laws_FnExactSLen
  have hn : n = xs.length := hx.1
  have S := St.start hG
  by_cases hbig : n > 2147483647
  · exact w_true (decide_eq_true (by omega)) (rt_1 rfl ⟨_, ⟨rfl, rfl⟩, S⟩)
  refine w_false (decide_eq_false (by omega)) (w_bnd ?_)
  refine st_alloc S fun ne _ S => ?_
  have S := S.re (ne, 0) (LN.flat exS) 0 rfl rfl rfl
  refine st_callT S [.ow (ne, 0)] (fun G hG => c_sLen (xs := exS) (Rdr.ow (xs := exS) rfl) (by decide) hG) ?_
  rintro _ _ _ ⟨rfl, rfl⟩ S
  dsimp only [List.cons_append, List.nil_append] at S
  refine w_true rfl ?_
  refine st_callT S [.ck (BaC hI)] (fun G hG => c_sLen hx (by omega) hG) ?_
  rintro _ _ _ ⟨rfl, rfl⟩ S
  dsimp only [List.cons_append, List.nil_append] at S
  exact bd_n rfl (rt_1 rfl ⟨_, ⟨rfl, rfl⟩, S.only [.ck (BaC hI)]⟩)
end
end Go.Proofs.Ytpbmahnieepmiaa
