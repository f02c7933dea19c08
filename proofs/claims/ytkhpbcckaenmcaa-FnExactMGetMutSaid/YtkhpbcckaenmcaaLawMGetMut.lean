/-
  The law FnExactMGetMut. Conditions: none.
-/
import Derived.Test.YtkhpbcckaenmcaaGb
import Derived.Test.YtkhpbcckaenmcaaGc
import Derived.Test.YtkhpbcckaenmcaaGd
set_option linter.unusedVariables false
set_option linter.unusedSimpArgs false
set_option linter.unusedSectionVars false
set_option maxRecDepth 100000
namespace Go.Proofs.Ytkhpbcckaenmcaa
open Go

section
variable {h : H}
theorem gq (l : List IV) (hs : Srt (ltO []) l) (ks : List Int) : gO l ks = qO l (iO ks) := by
  unfold gO qO iO
  rw [List.map_map]
  refine List.map_congr_left fun k _ => ?_
  show _ = q1 l (k, 0)
  unfold q1 MI.getR
  rw [lt_ltO]
  cases hf : fnd (ltO []) l (k, 0) with
  | none => rfl
  | some y =>
    obtain ⟨h1, h2, h3⟩ := fnd_some_lt hf
    have h4 : ¬ ltO [] y (k, 0) = true := fun e => by
      have := (pos_spec (ordO []) hs (k, 0) _ y h2).2 e
      omega
    have hk : y.1 = k := by
      have g3 : ¬ (k < y.1) := fun e => by rw [show ltO [] (k, 0) y = true from decide_eq_true e] at h3; cases h3
      have g4 : ¬ (y.1 < k) := fun e => h4 (decide_eq_true e)
      omega
    simp only [Option.isSome_some, if_true, atO]
    rw [if_neg (by omega), Int.toNat_natCast, h2, ← hk]
theorem c_mGetMut {c : Ck} {d : Int} (hd : d ≤ 536870912) {xs : List IV} {sp : Option PA} {n cap : Nat} (hx : Rdr c (sp, n, cap) LT xs) (hxl : xs.length ≤ 2147483647) {ks : List Int} {kp : Option PA} {kn kc : Nat} (hk : Rdr c (kp, kn, kc) LN ks) (hkl : ks.length ≤ 2147483647) {G : PA → Prop} (hG : Star [c] h G) :
    HT Try.prog fn_laws_mGetMut [.c (.int .i64 d), .c (.sl sp n cap), .c (.sl kp kn kc)] false [.c .bool] h fun r h' => ∃ post, (r = (true, ()) ∧ post = [c]) ∧ St h G post h' := by
  apply hc_laws_mGetMut
  unfold M_laws_mGetMut
  have S := St.start hG
  refine st_callT S [.ck c] (fun G hG => c_MGetMut hd hx hxl hk hkl hG) ?_
  rintro _ _ _ ⟨s1, rfl, h1, rfl⟩ S
  dsimp only [List.cons_append, List.nil_append] at S
  refine st_callT S [.ck c] (fun G hG => c_specItems hk (by omega) hG) ?_
  rintro _ _ _ ⟨s2, rfl, h2, rfl⟩ S
  dsimp only [List.cons_append, List.nil_append] at S
  have S := (S.ats [.ck c, .sl s2])
  refine st_callT (l := StC [c, SlC s2 LT.sz (LT.flat (iO ks))] :: _) (St.st_in (m := [_, _]) S) [.ck (StC [c, SlC s2 LT.sz (LT.flat (iO ks))])] (fun G hG => c_specGGet (Rdr.st (i := 0) rfl hx) (by omega) (Rdr.st (i := 1) rfl h2.rdr) (by rw [iO_len]; omega) hG) ?_
  rintro _ _ _ ⟨s3, rfl, h3, rfl⟩ S
  dsimp only [List.cons_append, List.nil_append] at S
  have S := St.st_out S
  dsimp only [List.cons_append, List.nil_append] at S
  have e := gq (treeO [] xs) (treeO_srt [] xs) ks
  rw [← e] at S h3
  have S := (S.ats [.sl s1, .sl s3])
  refine st_callT (l := StC [SlC s1 LF.sz (LF.flat (gO (treeO [] xs) ks)), SlC s3 LF.sz (LF.flat (gO (treeO [] xs) ks))] :: _) (St.st_in (m := [_, _]) S) [.ck (StC [SlC s1 LF.sz (LF.flat (gO (treeO [] xs) ks)), SlC s3 LF.sz (LF.flat (gO (treeO [] xs) ks))])] (fun G hG => c_EqualFound (Rdr.st (i := 0) rfl h1.rdr) (Rdr.st (i := 1) rfl h3.rdr) (by rw [gO_len]; omega) hG) ?_
  rintro _ _ _ ⟨rfl, rfl⟩ S
  dsimp only [List.cons_append, List.nil_append] at S
  have S := St.st_out S
  dsimp only [List.cons_append, List.nil_append] at S
  exact rt_1 rfl ⟨_, ⟨rfl, rfl⟩, S.only [.ck c]⟩
theorem c_FnExactMGetMut {hI : H} {d : Int} {xs : List IV} {sp : Option PA} {n cap : Nat} (hx : Rdr (BaC hI) (sp, n, cap) LT xs) {ks : List Int} {kp : Option PA} {kn kc : Nat} (hk : Rdr (BaC hI) (kp, kn, kc) LN ks) {G : PA → Prop} (hG : Star [BaC hI] h G) :
    HT Try.prog fn_laws_FnExactMGetMut [.c (.int .i64 d), .c (.sl sp n cap), .c (.sl kp kn kc)] false [.c .bool] h fun r h' => ∃ post, (r = (true, ()) ∧ post = [BaC hI]) ∧ St h G post h' := by
  apply hc_laws_FnExactMGetMut
  unfold M_laws_FnExactMGetMut
  have hn : n = xs.length := hx.1
  have hkn : kn = ks.length := hk.1
  have S := St.start hG
  refine w_bnd ?_
  by_cases hbig : n > 2147483647
  · exact w_true (decide_eq_true (by omega)) (bd_n rfl (w_true rfl (rt_1 rfl ⟨_, ⟨rfl, rfl⟩, S⟩)))
  refine w_false (decide_eq_false (by omega)) (bd_n rfl ?_)
  by_cases hkbig : kn > 2147483647
  · exact w_true (decide_eq_true (by omega)) (rt_1 rfl ⟨_, ⟨rfl, rfl⟩, S⟩)
  · refine w_false (decide_eq_false (by omega)) (w_bnd ?_)
    refine st_callT S [] (fun G hG => c_exItems hG) ?_
    rintro _ _ _ ⟨ne, rfl, rfl⟩ S
    dsimp only [List.cons_append, List.nil_append] at S
    refine st_alloc S fun n2 _ S => ?_
    have S := (S.ats [.ow (ne, 0), .ow (n2, 0)])
    refine st_callT (l := StC [Ow (ne, 0) (LT.flat exI) 0, Ow (n2, 0) (LN.flat [3, 4]) 0] :: _) (St.st_in (m := [_, _]) S) [.ck (StC [Ow (ne, 0) (LT.flat exI) 0, Ow (n2, 0) (LN.flat [3, 4]) 0])] (fun G hG => c_mGetMut (d := 2) (xs := exI) (ks := [3, 4]) (by omega) (Rdr.st (i := 0) rfl (Rdr.ow (xs := exI) rfl)) (by decide) (Rdr.st (i := 1) rfl (Rdr.ow (xs := [3, 4]) rfl)) (by decide) hG) ?_
    rintro _ _ _ ⟨rfl, rfl⟩ S
    dsimp only [List.cons_append, List.nil_append] at S
    have S := St.st_out S
    dsimp only [List.cons_append, List.nil_append] at S
    refine w_true rfl ?_
    refine st_callR S [] (fun G hG => c_Fits) ?_
    rintro _ rfl
    by_cases hf : d = 0 ∨ 2 ≤ d ∧ d ≤ 128
    · refine w_true (decide_eq_true hf) ?_
      by_cases h0 : d > 0
      · refine w_false (by rw [decide_eq_true h0]; rfl) ?_
        refine st_callT S [.ck (BaC hI)] (fun G hG => c_mGetMut (d := d) (by omega) hx (by omega) hk (by omega) hG) ?_
        rintro _ _ _ ⟨rfl, rfl⟩ S
        dsimp only [List.cons_append, List.nil_append] at S
        exact bd_n rfl (rt_1 rfl ⟨_, ⟨rfl, rfl⟩, S.only [.ck (BaC hI)]⟩)
      · exact w_true (by rw [decide_eq_false h0]; rfl) (bd_n rfl (rt_1 rfl ⟨_, ⟨rfl, rfl⟩, S.only [.ck (BaC hI)]⟩))
    · exact w_false (decide_eq_false hf) (bd_n rfl (rt_1 rfl ⟨_, ⟨rfl, rfl⟩, S.only [.ck (BaC hI)]⟩))
end
end Go.Proofs.Ytkhpbcckaenmcaa
