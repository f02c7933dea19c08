/-
  The law FnExactSLoad. Conditions: none.
-/
import Derived.Test.YtpbmahnieepmiaaPgA
import Derived.Test.YtpbmahnieepmiaaLawSLen
import Derived.Test.YtpbmahnieepmiaaLdms
import Derived.Test.YtpbmahnieepmiaaVkms
set_option linter.unusedVariables false
set_option linter.unusedSimpArgs false
set_option linter.unusedSectionVars false
set_option maxRecDepth 100000
namespace Go.Proofs.Ytpbmahnieepmiaa
open Go
def M_impl_SLoad (a0p : Option PA) (a0l : Nat) (a0c : Nat) : M :=
  .call fn_impl_growSet [.c (.sl none (0) (0))] false [.c (.ptr)] fun r0 =>
  .bind (some 0) (.loop [.c (.int .i64)] [.c (.int .i64 (0))] fun y1 =>
      .ite (decide (y1.fst < (↑a0l : Int)))
      (.nonnil (a0p) fun p2 =>
        .guard (((0 : Int) ≤ y1.fst) ∧ ((y1.fst : Int) < (↑a0l : Int))) <|
        .load (p2.fst, p2.snd + Int.toNat y1.fst) (.int .i64) fun i3 =>
        .call fn_set_Load [.c (.ptr (r0.fst)), .c (.int .i64 (i3))] true [] fun r4 =>
        .guard (InK IntKind.i64 (y1.fst + 1)) <|
        .done .normal [.c (.int .i64 (y1.fst + 1))])
      (.done (.exit 0) [])) [] fun x5 =>
  .call fn_set_Keys [.c (.ptr (r0.fst))] false [.c (.sl)] fun r6 =>
  .done .ret [.c (.sl (r6.fst.fst) (r6.fst.snd.fst) (r6.fst.snd.snd))]
theorem den_impl_SLoad (a0p : Option PA) (a0l : Nat) (a0c : Nat) : denFn Try.prog Try.f31 [.c (.sl a0p a0l a0c)] = M_impl_SLoad a0p a0l a0c := by kernel_rfl
theorem hc_impl_SLoad (a0p : Option PA) (a0l : Nat) (a0c : Nat) {h : H} {R : Value → H → Prop} (hw : wp Try.prog (M_impl_SLoad a0p a0l a0c) (Ret R) h) : HC Try.prog fn_impl_SLoad (List.map AV.val [.c (.sl a0p a0l a0c)]).toArray h R :=
  den_calls hmix Try.func31 (of_decide_eq_true rfl) (by rw [den_impl_SLoad]; exact hw)
def M_laws_sLoad (a0p : Option PA) (a0l : Nat) (a0c : Nat) : M :=
  .call fn_impl_SLoad [.c (.sl (a0p) (a0l) (a0c))] false [.c (.sl)] fun r0 =>
  .call fn_spec_Items [.c (.sl (a0p) (a0l) (a0c))] false [.c (.sl)] fun r1 =>
  .call fn_spec_Tree [.c (.sl none (0) (0)), .c (.sl (r1.fst.fst) (r1.fst.snd.fst) (r1.fst.snd.snd))] false [.c (.sl)] fun r2 =>
  .call fn_spec_Keys [.c (.sl (r2.fst.fst) (r2.fst.snd.fst) (r2.fst.snd.snd))] false [.c (.sl)] fun r3 =>
  .call fn_slices_Equal_int_int [.c (.sl (r0.fst.fst) (r0.fst.snd.fst) (r0.fst.snd.snd)), .c (.sl (r3.fst.fst) (r3.fst.snd.fst) (r3.fst.snd.snd))] false [.c (.bool)] fun r4 =>
  .done .ret [.c (.bool (r4.fst))]
theorem den_laws_sLoad (a0p : Option PA) (a0l : Nat) (a0c : Nat) : denFn Try.prog Try.f14 [.c (.sl a0p a0l a0c)] = M_laws_sLoad a0p a0l a0c := by kernel_rfl
theorem hc_laws_sLoad (a0p : Option PA) (a0l : Nat) (a0c : Nat) {h : H} {R : Value → H → Prop} (hw : wp Try.prog (M_laws_sLoad a0p a0l a0c) (Ret R) h) : HC Try.prog fn_laws_sLoad (List.map AV.val [.c (.sl a0p a0l a0c)]).toArray h R :=
  den_calls hmix Try.func14 (of_decide_eq_true rfl) (by rw [den_laws_sLoad]; exact hw)
def M_spec_Rises (a0p : Option PA) (a0l : Nat) (a0c : Nat) : M :=
  .bind (some 0) (.loop [.c (.int .i64)] [.c (.int .i64 (1))] fun y0 =>
      .ite (decide (y0.fst < (↑a0l : Int)))
      (.nonnil (a0p) fun p1 =>
        .guard (((0 : Int) ≤ y0.fst) ∧ ((y0.fst : Int) < (↑a0l : Int))) <|
        .load (p1.fst, p1.snd + Int.toNat y0.fst) (.int .i64) fun i2 =>
        .guard (InK IntKind.i64 (y0.fst - 1)) <|
        .nonnil (a0p) fun p3 =>
        .guard (((0 : Int) ≤ y0.fst - 1) ∧ ((y0.fst - 1 : Int) < (↑a0l : Int))) <|
        .load (p3.fst, p3.snd + (y0.fst - 1).toNat) (.int .i64) fun i4 =>
        .ite (decide (i2 < i4))
        (.done .ret [.c (.ff)])
        (.guard (InK IntKind.i64 (y0.fst + 1)) <|
          .done .normal [.c (.int .i64 (y0.fst + 1))]))
      (.done (.exit 0) [])) [] fun x5 =>
  .done .ret [.c (.tt)]
theorem den_spec_Rises (a0p : Option PA) (a0l : Nat) (a0c : Nat) : denFn Try.prog Try.f15 [.c (.sl a0p a0l a0c)] = M_spec_Rises a0p a0l a0c := by kernel_rfl
theorem hc_spec_Rises (a0p : Option PA) (a0l : Nat) (a0c : Nat) {h : H} {R : Value → H → Prop} (hw : wp Try.prog (M_spec_Rises a0p a0l a0c) (Ret R) h) : HC Try.prog fn_spec_Rises (List.map AV.val [.c (.sl a0p a0l a0c)]).toArray h R :=
  den_calls hmix Try.func15 (of_decide_eq_true rfl) (by rw [den_spec_Rises]; exact hw)
def M_laws_FnExactSLoad (a0p : Option PA) (a0l : Nat) (a0c : Nat) : M :=
  .ite (decide ((↑a0l : Int) > 2147483647))
  (.done .ret [.c (.tt)])
  (.bind none (.alloc ty_int [.int .i64 (1), .int .i64 (3), .int .i64 (3), .int .i64 (5)] fun n0 =>
      .call fn_laws_sLoad [.c (.sl (some (n0, 0)) (4) (4))] false [.c (.bool)] fun r1 =>
      .ite (r1.fst)
      (.call fn_spec_Rises [.c (.sl (a0p) (a0l) (a0c))] false [.c (.bool)] fun r2 =>
        .ite (!r2.fst)
        (.done .normal [.c (.tt)])
        (.call fn_laws_sLoad [.c (.sl (a0p) (a0l) (a0c))] false [.c (.bool)] fun r3 =>
          .done .normal [.c (.bool (r3.fst))]))
      (.done .normal [.c (.ff)])) [.c (.bool)] fun x4 =>
    .done .ret [.c (.bool (x4.fst))])
theorem den_laws_FnExactSLoad (a0p : Option PA) (a0l : Nat) (a0c : Nat) : denFn Try.prog Try.f5 [.c (.sl a0p a0l a0c)] = M_laws_FnExactSLoad a0p a0l a0c := by kernel_rfl
theorem hc_laws_FnExactSLoad (a0p : Option PA) (a0l : Nat) (a0c : Nat) {h : H} {R : Value → H → Prop} (hw : wp Try.prog (M_laws_FnExactSLoad a0p a0l a0c) (Ret R) h) : HC Try.prog fn_laws_FnExactSLoad (List.map AV.val [.c (.sl a0p a0l a0c)]).toArray h R :=
  den_calls hmix Try.func5 (of_decide_eq_true rfl) (by rw [den_laws_FnExactSLoad]; exact hw)
section
variable {h h0 : H} {G0 : PA → Prop} {l : List Ck}
theorem c_setKeys {a0 : PA} {dg : Nat} {l : List IV} (hl : l.length ≤ 4294967296) {G : PA → Prop} (hG : Star [MS.MpC 0 dg a0 (kL l)] h G) :
    HT Try.prog fn_set_Keys [.c (.addr a0)] false [.c .sl] h fun r h' => ∃ post, (∃ s : SlT, r = (s, ()) ∧ OwnL LN s (yO l) ∧ post = [SlC s LN.sz (LN.flat (yO l)), MS.MpC 0 dg a0 (kL l)]) ∧ St h G post h' := by
  have e : MS.kO (kL l) = yO l := by unfold MS.kO kL yO; rw [List.map_map]; rfl
  apply hc_set_Keys
  unfold M_set_Keys
  refine st_callT (St.start hG) [.mp a0] (fun G hG => MS.c_Keys (by rw [kL_len]; exact hl) hG) ?_
  rintro _ _ _ ⟨s, rfl, hs, rfl⟩ S
  dsimp only [List.cons_append, List.nil_append] at S
  rw [e] at S hs
  exact rt_1 rfl ⟨_, ⟨s, rfl, hs, rfl⟩, S⟩
theorem c_setLoad {a0 : PA} {dg : Nat} {l : List MS.KV} {k : Int} (hl : l.length < 4294967295) {G : PA → Prop} (hG : Star [MS.MpC 0 dg a0 l] h G) :
    HT Try.prog fn_set_Load [.c (.addr a0), .c (.int .i64 k)] true [] h fun x h' => ∃ post, post = [MS.MpC 0 dg a0 (put MS.lt l (k, ()))] ∧ St h G post h' := by
  apply hc_set_Load
  unfold M_set_Load
  refine st_callT (St.start hG) [.mp a0] (fun G hG => MS.c_Load (x := (k, ())) hl hG) ?_
  rintro _ _ _ ⟨rfl, rfl⟩ S
  dsimp only [List.cons_append, List.nil_append] at S
  exact rt_n rfl rfl ⟨_, rfl, S⟩
theorem c_SLoad {c : Ck} {xs : List Int} {sp : Option PA} {n cap : Nat} (hx : Rdr c (sp, n, cap) LN xs) (hxl : xs.length ≤ 2147483647) {G : PA → Prop} (hG : Star [c] h G) :
    HT Try.prog fn_impl_SLoad [.c (.sl sp n cap)] false [.c .sl] h fun r h' => ∃ post, (∃ s : SlT, r = (s, ()) ∧ OwnL LN s (yO (setO xs)) ∧ post = [c, SlC s LN.sz (LN.flat (yO (setO xs)))]) ∧ St h G post h' := by
  apply hc_impl_SLoad
  unfold M_impl_SLoad
  have hn : n = xs.length := hx.1
  have hsl := setO_len xs
  have S : St h G (EmC :: _) _ := St.em_in (St.start hG)
  refine st_callT S [.ck EmC] (fun G hG => c_growSet (c := EmC) (xs := []) Rdr.nil (by decide) hG) ?_
  rintro _ _ _ ⟨m, rfl, rfl⟩ S
  dsimp only [List.cons_append, List.nil_append] at S
  have S := S.ats [.ck c, .mp (m, 0)]
  refine w_mid' (some 0) (fun _ h' => St h G [c, MS.MpC 0 31 (m, 0) (kL (setO xs))] h') ?_ ?_
  · refine w_lp (fun r y h' => ∃ i : Nat, y = ((i : Int), ()) ∧ i + r = n ∧ St h G [c, MS.MpC 0 31 (m, 0) (kL (setO (xs.take i)))] h') n rfl ⟨0, rfl, by omega, S.only [.ck c, .mp (m, 0)]⟩ ?_
    clear S
    rintro r _ _ ⟨i, rfl, hi, S⟩
    by_cases hlt : i < n
    · obtain ⟨p, hp, hrd⟩ := hx.ptr (by omega)
      dsimp only at hp
      subst hp
      have hxi := List.getElem?_eq_getElem (show i < xs.length by omega)
      have hsl := setO_len (xs.take i)
      rw [List.length_take] at hsl
      simp only [Int.toNat_natCast, toNat_succ, toNat_succ2, toNat_pred]
      refine w_true (lt_t (by (first | omega | ((try dsimp only [Sh.T, Sh1.T]); omega)))) (w_nonnil (w_guard ⟨by (first | omega | ((try dsimp only [Sh.T, Sh1.T]); omega)), by (first | omega | ((try dsimp only [Sh.T, Sh1.T]); omega))⟩ (w_num (S.rdr hrd) hxi ?_)))
      refine st_callV S [.mp (m, 0)] (args' := [.c (.addr (m, 0)), .c (.int .i64 xs[i])]) rfl (fun G hG => c_setLoad (k := xs[i]) (by rw [kL_len]; omega) hG) ?_
      rintro _ _ _ rfl S
      dsimp only [List.cons_append, List.nil_append] at S
      have e : put MS.lt (kL (setO (xs.take i))) (xs[i], ()) = kL (setO (xs.take (i + 1))) := by rw [kL_put _ _ 0, setO, setO, iO_snoc (by omega), treeO_snoc]
      rw [e] at S
      refine w_guard (inK64 (by (first | omega | ((try dsimp only [Sh.T, Sh1.T]); omega))) (by (first | omega | ((try dsimp only [Sh.T, Sh1.T]); omega)))) ?_
      exact ln_n rfl (r - 1) ⟨i + 1, rfl, by omega, S.only [.ck c, .mp (m, 0)]⟩ (by omega)
    · rw [List.take_of_length_le (by omega)] at S
      exact w_false (lt_f (by (first | omega | ((try dsimp only [Sh.T, Sh1.T]); omega)))) (ln_e (md_e rfl S))
  clear S
  rintro _ _ S
  refine st_callV S [.mp (m, 0)] (args' := [.c (.addr (m, 0))]) rfl (fun G hG => c_setKeys (by omega) hG) ?_
  rintro _ _ _ ⟨s, rfl, hs, rfl⟩ S
  dsimp only [List.cons_append, List.nil_append] at S
  exact rt_1 rfl ⟨_, ⟨s, rfl, hs, rfl⟩, S.only [.ck c, .sl s]⟩
theorem c_sLoad {c : Ck} {xs : List Int} {sp : Option PA} {n cap : Nat} (hx : Rdr c (sp, n, cap) LN xs) (hxl : xs.length ≤ 2147483647) {G : PA → Prop} (hG : Star [c] h G) :
    HT Try.prog fn_laws_sLoad [.c (.sl sp n cap)] false [.c .bool] h fun r h' => ∃ post, (r = (true, ()) ∧ post = [c]) ∧ St h G post h' := by
  apply hc_laws_sLoad
  unfold M_laws_sLoad
  have hsl := setO_len xs
  have hio := iO_len xs
  refine st_callT (St.start hG) [.ck c] (fun G hG => c_SLoad hx hxl hG) ?_
  rintro _ _ _ ⟨s1, rfl, hs1, rfl⟩ S
  dsimp only [List.cons_append, List.nil_append] at S
  refine st_callT S [.ck c] (fun G hG => c_specItems hx (by omega) hG) ?_
  rintro _ _ _ ⟨s2, rfl, hs2, rfl⟩ S
  dsimp only [List.cons_append, List.nil_append] at S
  refine st_callT S [.sl s2] (fun G hG => c_treeKeys hs2.rdr (by omega) hG) ?_
  rintro _ _ _ ⟨s3, rfl, hs3, rfl⟩ S
  dsimp only [List.cons_append, List.nil_append] at S
  refine st_callT S [.sl s3] (fun G hG => c_specKeys hs3.rdr (by omega) hG) ?_
  rintro _ _ _ ⟨s4, rfl, hs4, rfl⟩ S
  dsimp only [List.cons_append, List.nil_append] at S
  (have S := S.ats [.sl s1, .sl s4]; refine st_callT (l := StC [SlC s1 LN.sz (LN.flat (yO (setO xs))), SlC s4 LN.sz (LN.flat (yO (setO xs)))] :: _) (St.st_in (m := [_, _]) S) [.ck (StC [SlC s1 LN.sz (LN.flat (yO (setO xs))), SlC s4 LN.sz (LN.flat (yO (setO xs)))])] (fun G hG => c_EqualInts (Rdr.st (i := 0) rfl hs1.rdr) (Rdr.st (i := 1) rfl hs4.rdr) (by rw [yO_len]; omega) hG) ?_)
  rintro _ _ _ ⟨rfl, rfl⟩ S
  dsimp only [List.cons_append, List.nil_append] at S
  have S := St.st_out S
  dsimp only [List.cons_append, List.nil_append] at S
  exact rt_1 rfl ⟨_, ⟨by simp, rfl⟩, S.only [.ck c]⟩
theorem c_Rises {c : Ck} {xs : List Int} {sp : Option PA} {n cap : Nat} (hx : Rdr c (sp, n, cap) LN xs) (hxl : xs.length ≤ 2147483647) {G : PA → Prop} (hG : Star [c] h G) :
    HT Try.prog fn_spec_Rises [.c (.sl sp n cap)] false [.c .bool] h fun r h' => ∃ post, (∃ b : Bool, r = (b, ()) ∧ post = [c]) ∧ St h G post h' := by
  apply hc_spec_Rises
  unfold M_spec_Rises
  have hn : n = xs.length := hx.1
  refine w_bnd (w_lp (fun r y h' => ∃ i : Nat, y = ((i : Int), ()) ∧ 1 ≤ i ∧ (n = 0 ∧ i = 1 ∨ i + r = n) ∧ St h G [c] h') (n - 1) rfl ⟨1, rfl, by omega, by omega, St.start hG⟩ ?_)
  rintro r _ _ ⟨i, rfl, hi1, hi, S⟩
  by_cases hlt : i < n
  · obtain ⟨p, hp, hrd⟩ := hx.ptr (by omega)
    dsimp only at hp
    subst hp
    have hxi := List.getElem?_eq_getElem (show i < xs.length by omega)
    have hxj := List.getElem?_eq_getElem (show i - 1 < xs.length by omega)
    simp only [Int.toNat_natCast, toNat_succ, toNat_succ2, toNat_pred]
    refine w_true (lt_t (by (first | omega | ((try dsimp only [Sh.T, Sh1.T]); omega)))) (w_nonnil (w_guard ⟨by (first | omega | ((try dsimp only [Sh.T, Sh1.T]); omega)), by (first | omega | ((try dsimp only [Sh.T, Sh1.T]); omega))⟩ (w_num (S.rdr hrd) hxi ?_)))
    refine w_guard (inK64 (by (first | omega | ((try dsimp only [Sh.T, Sh1.T]); omega))) (by (first | omega | ((try dsimp only [Sh.T, Sh1.T]); omega)))) (w_nonnil (w_guard ⟨by (first | omega | ((try dsimp only [Sh.T, Sh1.T]); omega)), by (first | omega | ((try dsimp only [Sh.T, Sh1.T]); omega))⟩ ?_))
    refine w_num (S.rdr hrd) hxj ?_
    by_cases hb : xs[i] < xs[i - 1]
    · exact w_true (decide_eq_true hb) (ln_r (bd_r (rt_1 rfl ⟨_, ⟨false, rfl, rfl⟩, S⟩)))
    · refine w_false (decide_eq_false hb) (w_guard (inK64 (by (first | omega | ((try dsimp only [Sh.T, Sh1.T]); omega))) (by (first | omega | ((try dsimp only [Sh.T, Sh1.T]); omega)))) ?_)
      exact ln_n rfl (r - 1) ⟨i + 1, rfl, by omega, by omega, S⟩ (by omega)
  · exact w_false (lt_f (by (first | omega | ((try dsimp only [Sh.T, Sh1.T]); omega)))) (ln_e (bd_e rfl (rt_1 rfl ⟨_, ⟨true, rfl, rfl⟩, S⟩)))
def exR : List Int := [1, 3, 3, 5]
theorem c_FnExactSLoad {hI : H} {xs : List Int} {sp : Option PA} {n cap : Nat} (hx : Rdr (BaC hI) (sp, n, cap) LN xs) {G : PA → Prop} (hG : Star [BaC hI] h G) :
    HT Try.prog fn_laws_FnExactSLoad [.c (.sl sp n cap)] false [.c .bool] h fun r h' => ∃ post, (r = (true, ()) ∧ post = [BaC hI]) ∧ St h G post h' := by
  apply hc_laws_FnExactSLoad
  unfold M_laws_FnExactSLoad
  have hn : n = xs.length := hx.1
  have S := St.start hG
  by_cases hbig : n > 2147483647
  · exact w_true (decide_eq_true (by omega)) (rt_1 rfl ⟨_, ⟨rfl, rfl⟩, S⟩)
  refine w_false (decide_eq_false (by omega)) (w_bnd ?_)
  refine st_alloc S fun ne _ S => ?_
  have S := S.re (ne, 0) (LN.flat exR) 0 rfl rfl rfl
  refine st_callT S [.ow (ne, 0)] (fun G hG => c_sLoad (xs := exR) (Rdr.ow (xs := exR) rfl) (by decide) hG) ?_
  rintro _ _ _ ⟨rfl, rfl⟩ S
  dsimp only [List.cons_append, List.nil_append] at S
  refine w_true rfl ?_
  refine st_callT S [.ck (BaC hI)] (fun G hG => c_Rises hx (by omega) hG) ?_
  rintro _ _ _ ⟨b, rfl, rfl⟩ S
  dsimp only [List.cons_append, List.nil_append] at S
  cases b with
  | false => exact w_true rfl (bd_n rfl (rt_1 rfl ⟨_, ⟨rfl, rfl⟩, S.only [.ck (BaC hI)]⟩))
  | true =>
    refine w_false rfl ?_
    refine st_callT S [.ck (BaC hI)] (fun G hG => c_sLoad hx (by omega) hG) ?_
    rintro _ _ _ ⟨rfl, rfl⟩ S
    dsimp only [List.cons_append, List.nil_append] at S
    exact bd_n rfl (rt_1 rfl ⟨_, ⟨rfl, rfl⟩, S.only [.ck (BaC hI)]⟩)
end
end Go.Proofs.Ytpbmahnieepmiaa
