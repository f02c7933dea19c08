/-
  The laws FnExactMScan and FnExactMAscend. Conditions: none.
-/
import Derived.Test.YtkhpbcckaenmcaaIm
import Derived.Test.YtkhpbcckaenmcaaTs
import Derived.Test.YtkhpbcckaenmcaaNcmi
set_option linter.unusedVariables false
set_option linter.unusedSimpArgs false
set_option linter.unusedSectionVars false
set_option maxRecDepth 100000
namespace Go.Proofs.Ytkhpbcckaenmcaa
open Go

section
variable {h : H}
theorem c_MScan {c : Ck} {d k : Int} (hd : d ≤ 536870912) {xs : List IV} {sp : Option PA} {n cap : Nat} (hx : Rdr c (sp, n, cap) LT xs) (hxl : xs.length ≤ 2147483647) {G : PA → Prop} (hG : Star [c] h G) :
    HT Try.prog fn_impl_MScan [.c (.int .i64 d), .c (.sl sp n cap), .c (.int .i64 k)] false [.c .sl] h fun r h' => ∃ post, (∃ s : SlT, r = (s, ()) ∧ OwnL LT s (firstO (treeO [] xs) k) ∧ post = [c, SlC s LT.sz (LT.flat (firstO (treeO [] xs) k))]) ∧ St h G post h' := by
  apply hc_impl_MScan
  unfold M_impl_MScan
  have htl := treeO_len [] xs
  refine st_alloc (St.start hG) fun n0 _ S => ?_
  refine st_callT S [.ck c] (fun G hG => c_growMap hd hx hxl hG) ?_
  rintro _ _ _ ⟨m, rfl, rfl⟩ S
  dsimp only [List.cons_append, List.nil_append] at S
  refine st_callT S [.ow (n0, 0)] (fun G hG => c_pairs hG) ?_
  rintro _ _ _ ⟨fp, f0, f1, rfl, rfl⟩ S
  dsimp only [List.cons_append, List.nil_append] at S
  refine st_callV S [.ck (PrC (n0, 0) fp f0 f1 k []), .mp (m, 0)] (args' := [.c (.addr (m, 0)), .c (.raw (prF fp))]) rfl (fun G hG => MI.c_Scan (cb_pairs (n := k)) (by simp; omega) hG) ?_
  rintro _ _ _ rfl S
  dsimp only [List.cons_append, List.nil_append] at S
  rw [run_first] at S
  obtain ⟨s, hs, S⟩ := open_pr S
  refine ld_sl S s.1 s.2.1 s.2.2 rfl ?_
  exact rt_1 rfl ⟨_, ⟨s, rfl, hs, rfl⟩, S.only [.ck c, .sl s]⟩
theorem c_MAscend {c : Ck} {d p k : Int} (hd : d ≤ 536870912) {xs : List IV} {sp : Option PA} {n cap : Nat} (hx : Rdr c (sp, n, cap) LT xs) (hxl : xs.length ≤ 2147483647) {G : PA → Prop} (hG : Star [c] h G) :
    HT Try.prog fn_impl_MAscend [.c (.int .i64 d), .c (.sl sp n cap), .c (.int .i64 p), .c (.int .i64 k)] false [.c .sl] h fun r h' => ∃ post, (∃ s : SlT, r = (s, ()) ∧ OwnL LT s (firstO (frO [] (treeO [] xs) (p, 0)) k) ∧ post = [c, SlC s LT.sz (LT.flat (firstO (frO [] (treeO [] xs) (p, 0)) k))]) ∧ St h G post h' := by
  apply hc_impl_MAscend
  unfold M_impl_MAscend
  have htl := treeO_len [] xs
  refine st_alloc (St.start hG) fun n0 _ S => ?_
  refine st_callT S [.ck c] (fun G hG => c_growMap hd hx hxl hG) ?_
  rintro _ _ _ ⟨m, rfl, rfl⟩ S
  dsimp only [List.cons_append, List.nil_append] at S
  refine st_callT S [.ow (n0, 0)] (fun G hG => c_pairs hG) ?_
  rintro _ _ _ ⟨fp, f0, f1, rfl, rfl⟩ S
  dsimp only [List.cons_append, List.nil_append] at S
  refine st_callV S [.ck (PrC (n0, 0) fp f0 f1 k []), .mp (m, 0)] (args' := [.c (.addr (m, 0)), .c (.int .i64 p), .c (.raw (prF fp))]) rfl (fun G hG => MI.c_Ascend (cb_pairs (n := k)) (by simp; omega) hG) ?_
  rintro _ _ _ rfl S
  dsimp only [List.cons_append, List.nil_append] at S
  rw [run_first] at S
  obtain ⟨s, hs, S⟩ := open_pr S
  refine ld_sl S s.1 s.2.1 s.2.2 rfl ?_
  exact rt_1 rfl ⟨_, ⟨s, rfl, hs, rfl⟩, S.only [.ck c, .sl s]⟩
theorem firstO_len {I : Type} (xs : List I) (k : Int) : (firstO xs k).length ≤ xs.length := by
  unfold firstO
  split
  · exact Nat.le_refl _
  · exact List.length_take_le' _ _
theorem c_mScan {c : Ck} {d k : Int} (hd : d ≤ 536870912) {xs : List IV} {sp : Option PA} {n cap : Nat} (hx : Rdr c (sp, n, cap) LT xs) (hxl : xs.length ≤ 2147483647) {G : PA → Prop} (hG : Star [c] h G) :
    HT Try.prog fn_laws_mScan [.c (.int .i64 d), .c (.sl sp n cap), .c (.int .i64 k)] false [.c .bool] h fun r h' => ∃ post, (r = (true, ()) ∧ post = [c]) ∧ St h G post h' := by
  apply hc_laws_mScan
  unfold M_laws_mScan
  have htl := treeO_len [] xs
  have hfl := firstO_len (treeO [] xs) k
  have S := St.start hG
  refine st_callT S [.ck c] (fun G hG => c_MScan hd hx hxl hG) ?_
  rintro _ _ _ ⟨s1, rfl, h1, rfl⟩ S
  dsimp only [List.cons_append, List.nil_append] at S
  refine st_callT S [.ck c] (fun G hG => c_GScan Rdr.nil (by decide) hx (by omega) hG) ?_
  rintro _ _ _ ⟨s2, t2, rfl, h2, rfl⟩ S
  dsimp only [List.cons_append, List.nil_append] at S
  have S := (S.ats [.sl s1, .sl t2])
  refine st_callT (l := StC [SlC s1 LT.sz (LT.flat (firstO (treeO [] xs) k)), SlC t2 LT.sz (LT.flat (treeO [] xs))] :: _) (St.st_in (m := [_, _]) S) [.ck (StC [SlC s1 LT.sz (LT.flat (firstO (treeO [] xs) k)), SlC t2 LT.sz (LT.flat (treeO [] xs))])] (fun G hG => c_EqualItems (Rdr.st (i := 0) rfl h1.rdr) (Rdr.st (i := 1) rfl h2) (by omega) hG) ?_
  rintro _ _ _ ⟨rfl, rfl⟩ S
  dsimp only [List.cons_append, List.nil_append] at S
  have S := St.st_out S
  dsimp only [List.cons_append, List.nil_append] at S
  exact rt_1 rfl ⟨_, ⟨by simp, rfl⟩, S.only [.ck c]⟩
theorem c_mAscend {c : Ck} {d p k : Int} (hd : d ≤ 536870912) {xs : List IV} {sp : Option PA} {n cap : Nat} (hx : Rdr c (sp, n, cap) LT xs) (hxl : xs.length ≤ 2147483647) {G : PA → Prop} (hG : Star [c] h G) :
    HT Try.prog fn_laws_mAscend [.c (.int .i64 d), .c (.sl sp n cap), .c (.int .i64 p), .c (.int .i64 k)] false [.c .bool] h fun r h' => ∃ post, (r = (true, ()) ∧ post = [c]) ∧ St h G post h' := by
  apply hc_laws_mAscend
  unfold M_laws_mAscend
  have htl := treeO_len [] xs
  have hfl := firstO_len (frO [] (treeO [] xs) (p, 0)) k
  have hfr : (frO [] (treeO [] xs) (p, 0)).length ≤ (treeO [] xs).length := by unfold frO; rw [List.length_drop]; omega
  have S := St.start hG
  refine st_callT S [.ck c] (fun G hG => c_MAscend hd hx hxl hG) ?_
  rintro _ _ _ ⟨s1, rfl, h1, rfl⟩ S
  dsimp only [List.cons_append, List.nil_append] at S
  refine st_callT S [.ck c] (fun G hG => c_GAscend (x := (p, 0)) Rdr.nil (by decide) hx (by omega) hG) ?_
  rintro _ _ _ ⟨s2, t2, rfl, h2, rfl⟩ S
  dsimp only [List.cons_append, List.nil_append] at S
  have S := (S.ats [.sl s1, .sl t2])
  refine st_callT (l := StC [SlC s1 LT.sz (LT.flat (firstO (frO [] (treeO [] xs) (p, 0)) k)), SlC t2 LT.sz (LT.flat (treeO [] xs))] :: _) (St.st_in (m := [_, _]) S) [.ck (StC [SlC s1 LT.sz (LT.flat (firstO (frO [] (treeO [] xs) (p, 0)) k)), SlC t2 LT.sz (LT.flat (treeO [] xs))])] (fun G hG => c_EqualItems (Rdr.st (i := 0) rfl h1.rdr) (Rdr.st (i := 1) rfl h2) (by omega) hG) ?_
  rintro _ _ _ ⟨rfl, rfl⟩ S
  dsimp only [List.cons_append, List.nil_append] at S
  have S := St.st_out S
  dsimp only [List.cons_append, List.nil_append] at S
  exact rt_1 rfl ⟨_, ⟨by simp, rfl⟩, S.only [.ck c]⟩
theorem c_FnExactMScan {hI : H} {d : Int} {k : Int} {xs : List IV} {sp : Option PA} {n cap : Nat} (hx : Rdr (BaC hI) (sp, n, cap) LT xs) {G : PA → Prop} (hG : Star [BaC hI] h G) :
    HT Try.prog fn_laws_FnExactMScan [.c (.int .i64 d), .c (.sl sp n cap), .c (.int .i64 k)] false [.c .bool] h fun r h' => ∃ post, (r = (true, ()) ∧ post = [BaC hI]) ∧ St h G post h' := by
  apply hc_laws_FnExactMScan
  unfold M_laws_FnExactMScan
  have hn : n = xs.length := hx.1
  have S := St.start hG
  by_cases hbig : n > 2147483647
  · exact w_true (decide_eq_true (by omega)) (rt_1 rfl ⟨_, ⟨rfl, rfl⟩, S⟩)
  refine w_false (decide_eq_false (by omega)) (w_bnd ?_)
  refine st_callT S [] (fun G hG => c_exItems hG) ?_
  rintro _ _ _ ⟨ne, rfl, rfl⟩ S
  dsimp only [List.cons_append, List.nil_append] at S
  refine st_callT S [.ck (Ow (ne, 0) (LT.flat exI) 0)] (fun G hG => c_mScan (d := 2) (xs := exI) (by omega) (Rdr.ow (xs := exI) rfl) (by decide) hG) ?_
  rintro _ _ _ ⟨rfl, rfl⟩ S
  dsimp only [List.cons_append, List.nil_append] at S
  refine w_true rfl ?_
  refine st_callR S [] (fun G hG => c_Fits) ?_
  rintro _ rfl
  by_cases hf : d = 0 ∨ 2 ≤ d ∧ d ≤ 128
  · refine w_true (decide_eq_true hf) ?_
    by_cases h0 : d > 0
    · refine w_false (by rw [decide_eq_true h0]; rfl) ?_
      refine st_callT S [.ck (BaC hI)] (fun G hG => c_mScan (d := d) (by omega) hx (by omega) hG) ?_
      rintro _ _ _ ⟨rfl, rfl⟩ S
      dsimp only [List.cons_append, List.nil_append] at S
      exact bd_n rfl (rt_1 rfl ⟨_, ⟨rfl, rfl⟩, S.only [.ck (BaC hI)]⟩)
    · exact w_true (by rw [decide_eq_false h0]; rfl) (bd_n rfl (rt_1 rfl ⟨_, ⟨rfl, rfl⟩, S.only [.ck (BaC hI)]⟩))
  · exact w_false (decide_eq_false hf) (bd_n rfl (rt_1 rfl ⟨_, ⟨rfl, rfl⟩, S.only [.ck (BaC hI)]⟩))
theorem c_FnExactMAscend {hI : H} {d : Int} {p k : Int} {xs : List IV} {sp : Option PA} {n cap : Nat} (hx : Rdr (BaC hI) (sp, n, cap) LT xs) {G : PA → Prop} (hG : Star [BaC hI] h G) :
    HT Try.prog fn_laws_FnExactMAscend [.c (.int .i64 d), .c (.sl sp n cap), .c (.int .i64 p), .c (.int .i64 k)] false [.c .bool] h fun r h' => ∃ post, (r = (true, ()) ∧ post = [BaC hI]) ∧ St h G post h' := by
  apply hc_laws_FnExactMAscend
  unfold M_laws_FnExactMAscend
  have hn : n = xs.length := hx.1
  have S := St.start hG
  by_cases hbig : n > 2147483647
  · exact w_true (decide_eq_true (by omega)) (rt_1 rfl ⟨_, ⟨rfl, rfl⟩, S⟩)
  refine w_false (decide_eq_false (by omega)) (w_bnd ?_)
  refine st_callT S [] (fun G hG => c_exItems hG) ?_
  rintro _ _ _ ⟨ne, rfl, rfl⟩ S
  dsimp only [List.cons_append, List.nil_append] at S
  refine st_callT S [.ck (Ow (ne, 0) (LT.flat exI) 0)] (fun G hG => c_mAscend (d := 2) (xs := exI) (by omega) (Rdr.ow (xs := exI) rfl) (by decide) hG) ?_
  rintro _ _ _ ⟨rfl, rfl⟩ S
  dsimp only [List.cons_append, List.nil_append] at S
  refine w_true rfl ?_
  refine st_callR S [] (fun G hG => c_Fits) ?_
  rintro _ rfl
  by_cases hf : d = 0 ∨ 2 ≤ d ∧ d ≤ 128
  · refine w_true (decide_eq_true hf) ?_
    by_cases h0 : d > 0
    · refine w_false (by rw [decide_eq_true h0]; rfl) ?_
      refine st_callT S [.ck (BaC hI)] (fun G hG => c_mAscend (d := d) (by omega) hx (by omega) hG) ?_
      rintro _ _ _ ⟨rfl, rfl⟩ S
      dsimp only [List.cons_append, List.nil_append] at S
      exact bd_n rfl (rt_1 rfl ⟨_, ⟨rfl, rfl⟩, S.only [.ck (BaC hI)]⟩)
    · exact w_true (by rw [decide_eq_false h0]; rfl) (bd_n rfl (rt_1 rfl ⟨_, ⟨rfl, rfl⟩, S.only [.ck (BaC hI)]⟩))
  · exact w_false (decide_eq_false hf) (bd_n rfl (rt_1 rfl ⟨_, ⟨rfl, rfl⟩, S.only [.ck (BaC hI)]⟩))
end
end Go.Proofs.Ytkhpbcckaenmcaa
