/-
  The laws FnExactMScan and FnExactMAscend. Conditions: none.
-/
import Derived.Test.YtkhpbcckaenmcaaIm
import Derived.Test.YtkhpbcckaenmcaaTs
import Derived.Test.YtkhpbcckaenmcaaNcmi
set_option linter.unusedVariables false
set_option linter.unusedSimpArgs false
set_option linter.unusedSectionVars false
set_option maxRecDepth 100000
namespace Go.Proofs.Ytkhpbcckaenmcaa
open Go

def M_impl_MScan (a0 : Int) (a1p : Option PA) (a1l : Nat) (a1c : Nat) (a2 : Int) : M :=
  .alloc ty_sl_impl_Item [.sl none (0) (0)] fun n0 =>
  .call fn_impl_growMap [.c (.int .i64 (a0)), .c (.sl (a1p) (a1l) (a1c))] false [.c (.ptr)] fun r1 =>
  .call fn_impl_pairs [.c (.addr (n0, 0)), .c (.int .i64 (a2))] false [.c (.raw)] fun r2 =>
  .call fn_mi_Scan [.c (.ptr (r1.fst)), .c (.raw (r2.fst))] true [] fun r3 =>
  .load (n0, 0) (.sl) fun s4 =>
  .done .ret [.c (.sl (s4.fst) (s4.snd.fst) (s4.snd.snd))]

theorem den_impl_MScan (a0 : Int) (a1p : Option PA) (a1l : Nat) (a1c : Nat) (a2 : Int) : denFn Try.prog Try.f40 [.c (.int .i64 a0), .c (.sl a1p a1l a1c), .c (.int .i64 a2)] = M_impl_MScan a0 a1p a1l a1c a2 := by kernel_rfl
theorem hc_impl_MScan (a0 : Int) (a1p : Option PA) (a1l : Nat) (a1c : Nat) (a2 : Int) {h : H} {R : Value → H → Prop} (hw : wp Try.prog (M_impl_MScan a0 a1p a1l a1c a2) (Ret R) h) : HC Try.prog fn_impl_MScan (List.map AV.val [.c (.int .i64 a0), .c (.sl a1p a1l a1c), .c (.int .i64 a2)]).toArray h R :=
  den_calls hmix Try.func40 (of_decide_eq_true rfl) (by rw [den_impl_MScan]; exact hw)

def M_impl_MAscend (a0 : Int) (a1p : Option PA) (a1l : Nat) (a1c : Nat) (a2 : Int) (a3 : Int) : M :=
  .alloc ty_sl_impl_Item [.sl none (0) (0)] fun n0 =>
  .call fn_impl_growMap [.c (.int .i64 (a0)), .c (.sl (a1p) (a1l) (a1c))] false [.c (.ptr)] fun r1 =>
  .call fn_impl_pairs [.c (.addr (n0, 0)), .c (.int .i64 (a3))] false [.c (.raw)] fun r2 =>
  .call fn_mi_Ascend [.c (.ptr (r1.fst)), .c (.int .i64 (a2)), .c (.raw (r2.fst))] true [] fun r3 =>
  .load (n0, 0) (.sl) fun s4 =>
  .done .ret [.c (.sl (s4.fst) (s4.snd.fst) (s4.snd.snd))]

theorem den_impl_MAscend (a0 : Int) (a1p : Option PA) (a1l : Nat) (a1c : Nat) (a2 : Int) (a3 : Int) : denFn Try.prog Try.f57 [.c (.int .i64 a0), .c (.sl a1p a1l a1c), .c (.int .i64 a2), .c (.int .i64 a3)] = M_impl_MAscend a0 a1p a1l a1c a2 a3 := by kernel_rfl
theorem hc_impl_MAscend (a0 : Int) (a1p : Option PA) (a1l : Nat) (a1c : Nat) (a2 : Int) (a3 : Int) {h : H} {R : Value → H → Prop} (hw : wp Try.prog (M_impl_MAscend a0 a1p a1l a1c a2 a3) (Ret R) h) : HC Try.prog fn_impl_MAscend (List.map AV.val [.c (.int .i64 a0), .c (.sl a1p a1l a1c), .c (.int .i64 a2), .c (.int .i64 a3)]).toArray h R :=
  den_calls hmix Try.func57 (of_decide_eq_true rfl) (by rw [den_impl_MAscend]; exact hw)

def M_laws_mScan (a0 : Int) (a1p : Option PA) (a1l : Nat) (a1c : Nat) (a2 : Int) : M :=
  .call fn_impl_MScan [.c (.int .i64 (a0)), .c (.sl (a1p) (a1l) (a1c)), .c (.int .i64 (a2))] false [.c (.sl)] fun r0 =>
  .call fn_spec_GScan [.agg [.sl none (0) (0), .int .i64 (0), .ff], .c (.sl (a1p) (a1l) (a1c)), .c (.int .i64 (a2))] false [.c (.sl)] fun r1 =>
  .call fn_slices_Equal_impl_Item_impl_Item [.c (.sl (r0.fst.fst) (r0.fst.snd.fst) (r0.fst.snd.snd)), .c (.sl (r1.fst.fst) (r1.fst.snd.fst) (r1.fst.snd.snd))] false [.c (.bool)] fun r2 =>
  .done .ret [.c (.bool (r2.fst))]

theorem den_laws_mScan (a0 : Int) (a1p : Option PA) (a1l : Nat) (a1c : Nat) (a2 : Int) : denFn Try.prog Try.f19 [.c (.int .i64 a0), .c (.sl a1p a1l a1c), .c (.int .i64 a2)] = M_laws_mScan a0 a1p a1l a1c a2 := by kernel_rfl
theorem hc_laws_mScan (a0 : Int) (a1p : Option PA) (a1l : Nat) (a1c : Nat) (a2 : Int) {h : H} {R : Value → H → Prop} (hw : wp Try.prog (M_laws_mScan a0 a1p a1l a1c a2) (Ret R) h) : HC Try.prog fn_laws_mScan (List.map AV.val [.c (.int .i64 a0), .c (.sl a1p a1l a1c), .c (.int .i64 a2)]).toArray h R :=
  den_calls hmix Try.func19 (of_decide_eq_true rfl) (by rw [den_laws_mScan]; exact hw)

def M_laws_mAscend (a0 : Int) (a1p : Option PA) (a1l : Nat) (a1c : Nat) (a2 : Int) (a3 : Int) : M :=
  .call fn_impl_MAscend [.c (.int .i64 (a0)), .c (.sl (a1p) (a1l) (a1c)), .c (.int .i64 (a2)), .c (.int .i64 (a3))] false [.c (.sl)] fun r0 =>
  .call fn_spec_GAscend [.agg [.sl none (0) (0), .int .i64 (0), .ff], .c (.sl (a1p) (a1l) (a1c)), .agg [.int .i64 (a2), .int .i64 (0)], .c (.int .i64 (a3))] false [.c (.sl)] fun r1 =>
  .call fn_slices_Equal_impl_Item_impl_Item [.c (.sl (r0.fst.fst) (r0.fst.snd.fst) (r0.fst.snd.snd)), .c (.sl (r1.fst.fst) (r1.fst.snd.fst) (r1.fst.snd.snd))] false [.c (.bool)] fun r2 =>
  .done .ret [.c (.bool (r2.fst))]

theorem den_laws_mAscend (a0 : Int) (a1p : Option PA) (a1l : Nat) (a1c : Nat) (a2 : Int) (a3 : Int) : denFn Try.prog Try.f25 [.c (.int .i64 a0), .c (.sl a1p a1l a1c), .c (.int .i64 a2), .c (.int .i64 a3)] = M_laws_mAscend a0 a1p a1l a1c a2 a3 := by kernel_rfl
theorem hc_laws_mAscend (a0 : Int) (a1p : Option PA) (a1l : Nat) (a1c : Nat) (a2 : Int) (a3 : Int) {h : H} {R : Value → H → Prop} (hw : wp Try.prog (M_laws_mAscend a0 a1p a1l a1c a2 a3) (Ret R) h) : HC Try.prog fn_laws_mAscend (List.map AV.val [.c (.int .i64 a0), .c (.sl a1p a1l a1c), .c (.int .i64 a2), .c (.int .i64 a3)]).toArray h R :=
  den_calls hmix Try.func25 (of_decide_eq_true rfl) (by rw [den_laws_mAscend]; exact hw)

def M_laws_FnExactMScan (a0 : Int) (a1p : Option PA) (a1l : Nat) (a1c : Nat) (a2 : Int) : M :=
  .ite (decide ((↑a1l : Int) > 2147483647))
  (.done .ret [.c (.tt)])
  (.bind none (.call fn_laws_exItems [] false [.c (.sl)] fun r0 =>
      .call fn_laws_mScan [.c (.int .i64 (2)), .c (.sl (r0.fst.fst) (r0.fst.snd.fst) (r0.fst.snd.snd)), .c (.int .i64 (2))] false [.c (.bool)] fun r1 =>
      .ite (r1.fst)
      (.call fn_spec_Fits [.c (.int .i64 (a0))] false [.c (.bool)] fun r2 =>
        .ite (r2.fst)
        (.ite (!decide (a0 > 0))
          (.done .normal [.c (.tt)])
          (.call fn_laws_mScan [.c (.int .i64 (a0)), .c (.sl (a1p) (a1l) (a1c)), .c (.int .i64 (a2))] false [.c (.bool)] fun r3 =>
            .done .normal [.c (.bool (r3.fst))]))
        (.done .normal [.c (.tt)]))
      (.done .normal [.c (.ff)])) [.c (.bool)] fun x4 =>
    .done .ret [.c (.bool (x4.fst))])

theorem den_laws_FnExactMScan (a0 : Int) (a1p : Option PA) (a1l : Nat) (a1c : Nat) (a2 : Int) : denFn Try.prog Try.f6 [.c (.int .i64 a0), .c (.sl a1p a1l a1c), .c (.int .i64 a2)] = M_laws_FnExactMScan a0 a1p a1l a1c a2 := by kernel_rfl
theorem hc_laws_FnExactMScan (a0 : Int) (a1p : Option PA) (a1l : Nat) (a1c : Nat) (a2 : Int) {h : H} {R : Value → H → Prop} (hw : wp Try.prog (M_laws_FnExactMScan a0 a1p a1l a1c a2) (Ret R) h) : HC Try.prog fn_laws_FnExactMScan (List.map AV.val [.c (.int .i64 a0), .c (.sl a1p a1l a1c), .c (.int .i64 a2)]).toArray h R :=
  den_calls hmix Try.func6 (of_decide_eq_true rfl) (by rw [den_laws_FnExactMScan]; exact hw)

def M_laws_FnExactMAscend (a0 : Int) (a1p : Option PA) (a1l : Nat) (a1c : Nat) (a2 : Int) (a3 : Int) : M :=
  .ite (decide ((↑a1l : Int) > 2147483647))
  (.done .ret [.c (.tt)])
  (.bind none (.call fn_laws_exItems [] false [.c (.sl)] fun r0 =>
      .call fn_laws_mAscend [.c (.int .i64 (2)), .c (.sl (r0.fst.fst) (r0.fst.snd.fst) (r0.fst.snd.snd)), .c (.int .i64 (4)), .c (.int .i64 (2))] false [.c (.bool)] fun r1 =>
      .ite (r1.fst)
      (.call fn_spec_Fits [.c (.int .i64 (a0))] false [.c (.bool)] fun r2 =>
        .ite (r2.fst)
        (.ite (!decide (a0 > 0))
          (.done .normal [.c (.tt)])
          (.call fn_laws_mAscend [.c (.int .i64 (a0)), .c (.sl (a1p) (a1l) (a1c)), .c (.int .i64 (a2)), .c (.int .i64 (a3))] false [.c (.bool)] fun r3 =>
            .done .normal [.c (.bool (r3.fst))]))
        (.done .normal [.c (.tt)]))
      (.done .normal [.c (.ff)])) [.c (.bool)] fun x4 =>
    .done .ret [.c (.bool (x4.fst))])

theorem den_laws_FnExactMAscend (a0 : Int) (a1p : Option PA) (a1l : Nat) (a1c : Nat) (a2 : Int) (a3 : Int) : denFn Try.prog Try.f8 [.c (.int .i64 a0), .c (.sl a1p a1l a1c), .c (.int .i64 a2), .c (.int .i64 a3)] = M_laws_FnExactMAscend a0 a1p a1l a1c a2 a3 := by kernel_rfl
theorem hc_laws_FnExactMAscend (a0 : Int) (a1p : Option PA) (a1l : Nat) (a1c : Nat) (a2 : Int) (a3 : Int) {h : H} {R : Value → H → Prop} (hw : wp Try.prog (M_laws_FnExactMAscend a0 a1p a1l a1c a2 a3) (Ret R) h) : HC Try.prog fn_laws_FnExactMAscend (List.map AV.val [.c (.int .i64 a0), .c (.sl a1p a1l a1c), .c (.int .i64 a2), .c (.int .i64 a3)]).toArray h R :=
  den_calls hmix Try.func8 (of_decide_eq_true rfl) (by rw [den_laws_FnExactMAscend]; exact hw)


section
variable {h : H}
theorem c_MScan {c : Ck} {d k : Int} (hd : d ≤ 536870912) {xs : List IV} {sp : Option PA} {n cap : Nat} (hx : Rdr c (sp, n, cap) LT xs) (hxl : xs.length ≤ 2147483647) {G : PA → Prop} (hG : Star [c] h G) :
    HT Try.prog fn_impl_MScan [.c (.int .i64 d), .c (.sl sp n cap), .c (.int .i64 k)] false [.c .sl] h fun r h' => ∃ post, (∃ s : SlT, r = (s, ()) ∧ OwnL LT s (firstO (treeO [] xs) k) ∧ post = [c, SlC s LT.sz (LT.flat (firstO (treeO [] xs) k))]) ∧ St h G post h' := by
  apply hc_impl_MScan
  unfold M_impl_MScan
  have htl := treeO_len [] xs
  refine st_alloc (St.start hG) fun n0 _ S => ?_
  refine st_callT S [.ck c] (fun G hG => c_growMap hd hx hxl hG) ?_
  rintro _ _ _ ⟨m, rfl, rfl⟩ S
  dsimp only [List.cons_append, List.nil_append] at S
  refine st_callT S [.ow (n0, 0)] (fun G hG => c_pairs hG) ?_
  rintro _ _ _ ⟨fp, f0, f1, rfl, rfl⟩ S
  dsimp only [List.cons_append, List.nil_append] at S
  refine st_callV S [.ck (PrC (n0, 0) fp f0 f1 k []), .mp (m, 0)] (args' := [.c (.addr (m, 0)), .c (.raw (prF fp))]) rfl (fun G hG => MI.c_Scan (cb_pairs (n := k)) (by simp; omega) hG) ?_
  rintro _ _ _ rfl S
  dsimp only [List.cons_append, List.nil_append] at S
  rw [run_first] at S
  obtain ⟨s, hs, S⟩ := open_pr S
  refine ld_sl S s.1 s.2.1 s.2.2 rfl ?_
  exact rt_1 rfl ⟨_, ⟨s, rfl, hs, rfl⟩, S.only [.ck c, .sl s]⟩
theorem c_MAscend {c : Ck} {d p k : Int} (hd : d ≤ 536870912) {xs : List IV} {sp : Option PA} {n cap : Nat} (hx : Rdr c (sp, n, cap) LT xs) (hxl : xs.length ≤ 2147483647) {G : PA → Prop} (hG : Star [c] h G) :
    HT Try.prog fn_impl_MAscend [.c (.int .i64 d), .c (.sl sp n cap), .c (.int .i64 p), .c (.int .i64 k)] false [.c .sl] h fun r h' => ∃ post, (∃ s : SlT, r = (s, ()) ∧ OwnL LT s (firstO (frO [] (treeO [] xs) (p, 0)) k) ∧ post = [c, SlC s LT.sz (LT.flat (firstO (frO [] (treeO [] xs) (p, 0)) k))]) ∧ St h G post h' := by
  apply hc_impl_MAscend
  unfold M_impl_MAscend
  have htl := treeO_len [] xs
  refine st_alloc (St.start hG) fun n0 _ S => ?_
  refine st_callT S [.ck c] (fun G hG => c_growMap hd hx hxl hG) ?_
  rintro _ _ _ ⟨m, rfl, rfl⟩ S
  dsimp only [List.cons_append, List.nil_append] at S
  refine st_callT S [.ow (n0, 0)] (fun G hG => c_pairs hG) ?_
  rintro _ _ _ ⟨fp, f0, f1, rfl, rfl⟩ S
  dsimp only [List.cons_append, List.nil_append] at S
  refine st_callV S [.ck (PrC (n0, 0) fp f0 f1 k []), .mp (m, 0)] (args' := [.c (.addr (m, 0)), .c (.int .i64 p), .c (.raw (prF fp))]) rfl (fun G hG => MI.c_Ascend (cb_pairs (n := k)) (by simp; omega) hG) ?_
  rintro _ _ _ rfl S
  dsimp only [List.cons_append, List.nil_append] at S
  rw [run_first] at S
  obtain ⟨s, hs, S⟩ := open_pr S
  refine ld_sl S s.1 s.2.1 s.2.2 rfl ?_
  exact rt_1 rfl ⟨_, ⟨s, rfl, hs, rfl⟩, S.only [.ck c, .sl s]⟩
theorem firstO_len {I : Type} (xs : List I) (k : Int) : (firstO xs k).length ≤ xs.length := by
  unfold firstO
  split
  · exact Nat.le_refl _
  · exact List.length_take_le' _ _
theorem c_mScan {c : Ck} {d k : Int} (hd : d ≤ 536870912) {xs : List IV} {sp : Option PA} {n cap : Nat} (hx : Rdr c (sp, n, cap) LT xs) (hxl : xs.length ≤ 2147483647) {G : PA → Prop} (hG : Star [c] h G) :
    HT Try.prog fn_laws_mScan [.c (.int .i64 d), .c (.sl sp n cap), .c (.int .i64 k)] false [.c .bool] h fun r h' => ∃ post, (r = (true, ()) ∧ post = [c]) ∧ St h G post h' := by
  apply hc_laws_mScan
  unfold M_laws_mScan
  have htl := treeO_len [] xs
  have hfl := firstO_len (treeO [] xs) k
  have S := St.start hG
  refine st_callT S [.ck c] (fun G hG => c_MScan hd hx hxl hG) ?_
  rintro _ _ _ ⟨s1, rfl, h1, rfl⟩ S
  dsimp only [List.cons_append, List.nil_append] at S
  refine st_callT S [.ck c] (fun G hG => c_GScan Rdr.nil (by decide) hx (by omega) hG) ?_
  rintro _ _ _ ⟨s2, t2, rfl, h2, rfl⟩ S
  dsimp only [List.cons_append, List.nil_append] at S
  have S := (S.ats [.sl s1, .sl t2])
  refine st_callT (l := StC [SlC s1 LT.sz (LT.flat (firstO (treeO [] xs) k)), SlC t2 LT.sz (LT.flat (treeO [] xs))] :: _) (St.st_in (m := [_, _]) S) [.ck (StC [SlC s1 LT.sz (LT.flat (firstO (treeO [] xs) k)), SlC t2 LT.sz (LT.flat (treeO [] xs))])] (fun G hG => c_EqualItems (Rdr.st (i := 0) rfl h1.rdr) (Rdr.st (i := 1) rfl h2) (by omega) hG) ?_
  rintro _ _ _ ⟨rfl, rfl⟩ S
  dsimp only [List.cons_append, List.nil_append] at S
  have S := St.st_out S
  dsimp only [List.cons_append, List.nil_append] at S
  exact rt_1 rfl ⟨_, ⟨by simp, rfl⟩, S.only [.ck c]⟩
theorem c_mAscend {c : Ck} {d p k : Int} (hd : d ≤ 536870912) {xs : List IV} {sp : Option PA} {n cap : Nat} (hx : Rdr c (sp, n, cap) LT xs) (hxl : xs.length ≤ 2147483647) {G : PA → Prop} (hG : Star [c] h G) :
    HT Try.prog fn_laws_mAscend [.c (.int .i64 d), .c (.sl sp n cap), .c (.int .i64 p), .c (.int .i64 k)] false [.c .bool] h fun r h' => ∃ post, (r = (true, ()) ∧ post = [c]) ∧ St h G post h' := by
  apply hc_laws_mAscend
  unfold M_laws_mAscend
  have htl := treeO_len [] xs
  have hfl := firstO_len (frO [] (treeO [] xs) (p, 0)) k
  have hfr : (frO [] (treeO [] xs) (p, 0)).length ≤ (treeO [] xs).length := by unfold frO; rw [List.length_drop]; omega
  have S := St.start hG
  refine st_callT S [.ck c] (fun G hG => c_MAscend hd hx hxl hG) ?_
  rintro _ _ _ ⟨s1, rfl, h1, rfl⟩ S
  dsimp only [List.cons_append, List.nil_append] at S
  refine st_callT S [.ck c] (fun G hG => c_GAscend (x := (p, 0)) Rdr.nil (by decide) hx (by omega) hG) ?_
  rintro _ _ _ ⟨s2, t2, rfl, h2, rfl⟩ S
  dsimp only [List.cons_append, List.nil_append] at S
  have S := (S.ats [.sl s1, .sl t2])
  refine st_callT (l := StC [SlC s1 LT.sz (LT.flat (firstO (frO [] (treeO [] xs) (p, 0)) k)), SlC t2 LT.sz (LT.flat (treeO [] xs))] :: _) (St.st_in (m := [_, _]) S) [.ck (StC [SlC s1 LT.sz (LT.flat (firstO (frO [] (treeO [] xs) (p, 0)) k)), SlC t2 LT.sz (LT.flat (treeO [] xs))])] (fun G hG => c_EqualItems (Rdr.st (i := 0) rfl h1.rdr) (Rdr.st (i := 1) rfl h2) (by omega) hG) ?_
  rintro _ _ _ ⟨rfl, rfl⟩ S
  dsimp only [List.cons_append, List.nil_append] at S
  have S := St.st_out S
  dsimp only [List.cons_append, List.nil_append] at S
  exact rt_1 rfl ⟨_, ⟨by simp, rfl⟩, S.only [.ck c]⟩
theorem c_FnExactMScan {hI : H} {d : Int} {k : Int} {xs : List IV} {sp : Option PA} {n cap : Nat} (hx : Rdr (BaC hI) (sp, n, cap) LT xs) {G : PA → Prop} (hG : Star [BaC hI] h G) :
    HT Try.prog fn_laws_FnExactMScan [.c (.int .i64 d), .c (.sl sp n cap), .c (.int .i64 k)] false [.c .bool] h fun r h' => ∃ post, (r = (true, ()) ∧ post = [BaC hI]) ∧ St h G post h' := by
  apply hc_laws_FnExactMScan
  unfold M_laws_FnExactMScan
  have hn : n = xs.length := hx.1
  have S := St.start hG
  by_cases hbig : n > 2147483647
  · exact w_true (decide_eq_true (by omega)) (rt_1 rfl ⟨_, ⟨rfl, rfl⟩, S⟩)
  refine w_false (decide_eq_false (by omega)) (w_bnd ?_)
  refine st_callT S [] (fun G hG => c_exItems hG) ?_
  rintro _ _ _ ⟨ne, rfl, rfl⟩ S
  dsimp only [List.cons_append, List.nil_append] at S
  refine st_callT S [.ck (Ow (ne, 0) (LT.flat exI) 0)] (fun G hG => c_mScan (d := 2) (xs := exI) (by omega) (Rdr.ow (xs := exI) rfl) (by decide) hG) ?_
  rintro _ _ _ ⟨rfl, rfl⟩ S
  dsimp only [List.cons_append, List.nil_append] at S
  refine w_true rfl ?_
  refine st_callR S [] (fun G hG => c_Fits) ?_
  rintro _ rfl
  by_cases hf : d = 0 ∨ 2 ≤ d ∧ d ≤ 128
  · refine w_true (decide_eq_true hf) ?_
    by_cases h0 : d > 0
    · refine w_false (by rw [decide_eq_true h0]; rfl) ?_
      refine st_callT S [.ck (BaC hI)] (fun G hG => c_mScan (d := d) (by omega) hx (by omega) hG) ?_
      rintro _ _ _ ⟨rfl, rfl⟩ S
      dsimp only [List.cons_append, List.nil_append] at S
      exact bd_n rfl (rt_1 rfl ⟨_, ⟨rfl, rfl⟩, S.only [.ck (BaC hI)]⟩)
    · exact w_true (by rw [decide_eq_false h0]; rfl) (bd_n rfl (rt_1 rfl ⟨_, ⟨rfl, rfl⟩, S.only [.ck (BaC hI)]⟩))
  · exact w_false (decide_eq_false hf) (bd_n rfl (rt_1 rfl ⟨_, ⟨rfl, rfl⟩, S.only [.ck (BaC hI)]⟩))
theorem c_FnExactMAscend {hI : H} {d : Int} {p k : Int} {xs : List IV} {sp : Option PA} {n cap : Nat} (hx : Rdr (BaC hI) (sp, n, cap) LT xs) {G : PA → Prop} (hG : Star [BaC hI] h G) :
    HT Try.prog fn_laws_FnExactMAscend [.c (.int .i64 d), .c (.sl sp n cap), .c (.int .i64 p), .c (.int .i64 k)] false [.c .bool] h fun r h' => ∃ post, (r = (true, ()) ∧ post = [BaC hI]) ∧ St h G post h' := by
  apply hc_laws_FnExactMAscend
  unfold M_laws_FnExactMAscend
  have hn : n = xs.length := hx.1
  have S := St.start hG
  by_cases hbig : n > 2147483647
  · exact w_true (decide_eq_true (by omega)) (rt_1 rfl ⟨_, ⟨rfl, rfl⟩, S⟩)
  refine w_false (decide_eq_false (by omega)) (w_bnd ?_)
  refine st_callT S [] (fun G hG => c_exItems hG) ?_
  rintro _ _ _ ⟨ne, rfl, rfl⟩ S
  dsimp only [List.cons_append, List.nil_append] at S
  refine st_callT S [.ck (Ow (ne, 0) (LT.flat exI) 0)] (fun G hG => c_mAscend (d := 2) (xs := exI) (by omega) (Rdr.ow (xs := exI) rfl) (by decide) hG) ?_
  rintro _ _ _ ⟨rfl, rfl⟩ S
  dsimp only [List.cons_append, List.nil_append] at S
  refine w_true rfl ?_
  refine st_callR S [] (fun G hG => c_Fits) ?_
  rintro _ rfl
  by_cases hf : d = 0 ∨ 2 ≤ d ∧ d ≤ 128
  · refine w_true (decide_eq_true hf) ?_
    by_cases h0 : d > 0
    · refine w_false (by rw [decide_eq_true h0]; rfl) ?_
      refine st_callT S [.ck (BaC hI)] (fun G hG => c_mAscend (d := d) (by omega) hx (by omega) hG) ?_
      rintro _ _ _ ⟨rfl, rfl⟩ S
      dsimp only [List.cons_append, List.nil_append] at S
      exact bd_n rfl (rt_1 rfl ⟨_, ⟨rfl, rfl⟩, S.only [.ck (BaC hI)]⟩)
    · exact w_true (by rw [decide_eq_false h0]; rfl) (bd_n rfl (rt_1 rfl ⟨_, ⟨rfl, rfl⟩, S.only [.ck (BaC hI)]⟩))
  · exact w_false (decide_eq_false hf) (bd_n rfl (rt_1 rfl ⟨_, ⟨rfl, rfl⟩, S.only [.ck (BaC hI)]⟩))
end
end Go.Proofs.Ytkhpbcckaenmcaa
