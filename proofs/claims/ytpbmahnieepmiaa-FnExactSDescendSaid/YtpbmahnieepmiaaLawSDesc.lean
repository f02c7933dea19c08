/-
  The law FnExactSDescend. Conditions: none.
-/
import Derived.Test.YtpbmahnieepmiaaPgA
import Derived.Test.YtpbmahnieepmiaaLawSLen
import Derived.Test.YtpbmahnieepmiaaTni
import Derived.Test.YtpbmahnieepmiaaTd
set_option linter.unusedVariables false
set_option linter.unusedSimpArgs false
set_option linter.unusedSectionVars false
set_option maxRecDepth 100000
namespace Go.Proofs.Ytpbmahnieepmiaa
open Go
def M_impl_SDescend (a0p : Option PA) (a0l : Nat) (a0c : Nat) (a1 : Int) (a2 : Int) : M :=
  .alloc ty_sl_int [.sl none (0) (0)] fun n0 =>
  .call fn_impl_growSet [.c (.sl (a0p) (a0l) (a0c))] false [.c (.ptr)] fun r1 =>
  .call fn_impl_taker_int [.c (.addr (n0, 0)), .c (.int .i64 (a2))] false [.c (.raw)] fun r2 =>
  .call fn_set_Descend [.c (.ptr (r1.fst)), .c (.int .i64 (a1)), .c (.raw (r2.fst))] true [] fun r3 =>
  .load (n0, 0) (.sl) fun s4 =>
  .done .ret [.c (.sl (s4.fst) (s4.snd.fst) (s4.snd.snd))]
theorem den_impl_SDescend (a0p : Option PA) (a0l : Nat) (a0c : Nat) (a1 : Int) (a2 : Int) : denFn Try.prog Try.f33 [.c (.sl a0p a0l a0c), .c (.int .i64 a1), .c (.int .i64 a2)] = M_impl_SDescend a0p a0l a0c a1 a2 := by kernel_rfl
theorem hc_impl_SDescend (a0p : Option PA) (a0l : Nat) (a0c : Nat) (a1 : Int) (a2 : Int) {h : H} {R : Value → H → Prop} (hw : wp Try.prog (M_impl_SDescend a0p a0l a0c a1 a2) (Ret R) h) : HC Try.prog fn_impl_SDescend (List.map AV.val [.c (.sl a0p a0l a0c), .c (.int .i64 a1), .c (.int .i64 a2)]).toArray h R :=
  den_calls hmix Try.func33 (of_decide_eq_true rfl) (by rw [den_impl_SDescend]; exact hw)
def M_laws_sDescend (a0p : Option PA) (a0l : Nat) (a0c : Nat) (a1 : Int) (a2 : Int) : M :=
  .call fn_impl_SDescend [.c (.sl (a0p) (a0l) (a0c)), .c (.int .i64 (a1)), .c (.int .i64 (a2))] false [.c (.sl)] fun r0 =>
  .call fn_spec_Items [.c (.sl (a0p) (a0l) (a0c))] false [.c (.sl)] fun r1 =>
  .call fn_spec_GDescend [.agg [.sl none (0) (0), .int .i64 (0), .ff], .c (.sl (r1.fst.fst) (r1.fst.snd.fst) (r1.fst.snd.snd)), .agg [.int .i64 (a1), .int .i64 (0)], .c (.int .i64 (a2))] false [.c (.sl)] fun r2 =>
  .call fn_spec_Keys [.c (.sl (r2.fst.fst) (r2.fst.snd.fst) (r2.fst.snd.snd))] false [.c (.sl)] fun r3 =>
  .call fn_slices_Equal_int_int [.c (.sl (r0.fst.fst) (r0.fst.snd.fst) (r0.fst.snd.snd)), .c (.sl (r3.fst.fst) (r3.fst.snd.fst) (r3.fst.snd.snd))] false [.c (.bool)] fun r4 =>
  .done .ret [.c (.bool (r4.fst))]
theorem den_laws_sDescend (a0p : Option PA) (a0l : Nat) (a0c : Nat) (a1 : Int) (a2 : Int) : denFn Try.prog Try.f16 [.c (.sl a0p a0l a0c), .c (.int .i64 a1), .c (.int .i64 a2)] = M_laws_sDescend a0p a0l a0c a1 a2 := by kernel_rfl
theorem hc_laws_sDescend (a0p : Option PA) (a0l : Nat) (a0c : Nat) (a1 : Int) (a2 : Int) {h : H} {R : Value → H → Prop} (hw : wp Try.prog (M_laws_sDescend a0p a0l a0c a1 a2) (Ret R) h) : HC Try.prog fn_laws_sDescend (List.map AV.val [.c (.sl a0p a0l a0c), .c (.int .i64 a1), .c (.int .i64 a2)]).toArray h R :=
  den_calls hmix Try.func16 (of_decide_eq_true rfl) (by rw [den_laws_sDescend]; exact hw)
def M_laws_FnExactSDescend (a0p : Option PA) (a0l : Nat) (a0c : Nat) (a1 : Int) (a2 : Int) : M :=
  .ite (decide ((↑a0l : Int) > 2147483647))
  (.done .ret [.c (.tt)])
  (.bind none (.alloc ty_int [.int .i64 (5), .int .i64 (3), .int .i64 (9), .int .i64 (3), .int .i64 (1)] fun n0 =>
      .call fn_laws_sDescend [.c (.sl (some (n0, 0)) (5) (5)), .c (.int .i64 (4)), .c (.int .i64 (2))] false [.c (.bool)] fun r1 =>
      .ite (r1.fst)
      (.call fn_laws_sDescend [.c (.sl (a0p) (a0l) (a0c)), .c (.int .i64 (a1)), .c (.int .i64 (a2))] false [.c (.bool)] fun r2 =>
        .done .normal [.c (.bool (r2.fst))])
      (.done .normal [.c (.ff)])) [.c (.bool)] fun x3 =>
    .done .ret [.c (.bool (x3.fst))])
theorem den_laws_FnExactSDescend (a0p : Option PA) (a0l : Nat) (a0c : Nat) (a1 : Int) (a2 : Int) : denFn Try.prog Try.f6 [.c (.sl a0p a0l a0c), .c (.int .i64 a1), .c (.int .i64 a2)] = M_laws_FnExactSDescend a0p a0l a0c a1 a2 := by kernel_rfl
theorem hc_laws_FnExactSDescend (a0p : Option PA) (a0l : Nat) (a0c : Nat) (a1 : Int) (a2 : Int) {h : H} {R : Value → H → Prop} (hw : wp Try.prog (M_laws_FnExactSDescend a0p a0l a0c a1 a2) (Ret R) h) : HC Try.prog fn_laws_FnExactSDescend (List.map AV.val [.c (.sl a0p a0l a0c), .c (.int .i64 a1), .c (.int .i64 a2)]).toArray h R :=
  den_calls hmix Try.func6 (of_decide_eq_true rfl) (by rw [den_laws_FnExactSDescend]; exact hw)
section
variable {h h0 : H} {G0 : PA → Prop} {l : List Ck}
theorem up_map {I J : Type} {lt : I → I → Bool} {lt' : J → J → Bool} {f : I → J} (hf : ∀ a b, lt' (f a) (f b) = lt a b) (l : List I) (x : I) : up lt' (l.map f) (f x) = up lt l x := by
  unfold up
  rw [pos_map hf, fnd_map hf, Option.isSome_map]
theorem toO_kL (l : List IV) (k : Int) : MS.toO (kL l) k = kL (dnO [] l (k, 0)) := by
  unfold MS.toO dnO kL
  rw [show ((k, ()) : MS.KV) = kS (k, 0) from rfl, up_map (f := kS) lt_kS, List.map_reverse, List.map_take]
theorem kL_keys (l : List IV) : (kL l).map (·.1) = yO l := by unfold kL yO; rw [List.map_map]; rfl
theorem firstO_map {I J : Type} (f : I → J) (l : List I) (n : Int) : firstO (l.map f) n = (firstO l n).map f := by
  unfold firstO
  rw [List.length_map]
  split
  · rfl
  · rw [List.map_take]
theorem c_setDescend {a0 o f0 f1 : PA} {dg : Nat} {l : List MS.KV} {k n : Int} (hl : l.length ≤ 4294967296) {G : PA → Prop} (hG : Star [Ow o [.slice none 0 0] 0, Ow f0 [.pointer (some o.val)] 0, Ow f1 [.int .i64 n] 0, MS.MpC 0 dg a0 l] h G) :
    HT Try.prog fn_set_Descend [.c (.addr a0), .c (.int .i64 k), .c (.raw (tnF f0 f1))] true [] h fun x h' => ∃ post, (∃ s : SlT, OwnL LN s ((firstO (MS.toO l k) n).map (·.1)) ∧ post = [Ow o [.slice (s.1.map PA.val) s.2.1 s.2.2] 0, SlC s LN.sz (LN.flat ((firstO (MS.toO l k) n).map (·.1))), MS.MpC 0 dg a0 l]) ∧ St h G post h' := by
  apply hc_set_Descend
  unfold M_set_Descend
  refine st_alloc (St.start hG) fun fp _ S => ?_
  have S := shut_sd (S.ats [.ow o, .ow f0, .ow f1, .ow (fp, 0)])
  refine st_callV S [.ck (sdC o (fp, 0) f0 f1 n []), .mp a0] (args' := [.c (.addr a0), .c (.int .i64 k), .c (.raw (sdF (fp, 0)))]) rfl (fun G hG => MS.c_Descend (k := k) (cb_sd (n := n)) (by simpa using hl) hG) ?_
  rintro _ _ _ rfl S
  dsimp only [List.cons_append, List.nil_append] at S
  rw [run_first] at S
  obtain ⟨s, hs, S⟩ := open_sd S
  exact rt_n rfl rfl ⟨_, ⟨s, hs, rfl⟩, S.only [.ow o, .sl s, .mp a0]⟩
theorem c_SDescend {c : Ck} {xs : List Int} {sp : Option PA} {n cap : Nat} (hx : Rdr c (sp, n, cap) LN xs) (hxl : xs.length ≤ 2147483647) {p k : Int} {G : PA → Prop} (hG : Star [c] h G) :
    HT Try.prog fn_impl_SDescend [.c (.sl sp n cap), .c (.int .i64 p), .c (.int .i64 k)] false [.c .sl] h fun r h' => ∃ post, (∃ s : SlT, r = (s, ()) ∧ OwnL LN s (yO (firstO (dnO [] (setO xs) (p, 0)) k)) ∧ post = [c, SlC s LN.sz (LN.flat (yO (firstO (dnO [] (setO xs) (p, 0)) k)))]) ∧ St h G post h' := by
  apply hc_impl_SDescend
  unfold M_impl_SDescend
  have hsl := setO_len xs
  refine st_alloc (St.start hG) fun n0 _ S => ?_
  refine st_callT S [.ck c] (fun G hG => c_growSet hx hxl hG) ?_
  rintro _ _ _ ⟨m, rfl, rfl⟩ S
  dsimp only [List.cons_append, List.nil_append] at S
  refine st_callT S [] (fun G hG => c_tn (l := []) hG) ?_
  rintro _ _ _ ⟨f0, f1, rfl, rfl⟩ S
  dsimp only [List.cons_append, List.nil_append] at S
  refine st_callV S [.ow (n0, 0), .ow (f0, 0), .ow (f1, 0), .mp (m, 0)] (args' := [.c (.addr (m, 0)), .c (.int .i64 p), .c (.raw (tnF (f0, 0) (f1, 0)))]) rfl (fun G hG => c_setDescend (by rw [kL_len]; omega) hG) ?_
  rintro _ _ _ ⟨s, hs, rfl⟩ S
  dsimp only [List.cons_append, List.nil_append] at S
  have e : (firstO (MS.toO (kL (setO xs)) p) k).map (·.1) = yO (firstO (dnO [] (setO xs) (p, 0)) k) := by
    rw [toO_kL, show kL (dnO [] (setO xs) (p, 0)) = (dnO [] (setO xs) (p, 0)).map kS from rfl, firstO_map, ← kL_keys]; rfl
  rw [e] at S hs
  refine ld_sl S s.1 s.2.1 s.2.2 rfl ?_
  exact rt_1 rfl ⟨_, ⟨s, rfl, hs, rfl⟩, S.only [.ck c, .sl s]⟩
theorem firstO_lenS {I : Type} (xs : List I) (k : Int) : (firstO xs k).length ≤ xs.length := by
  unfold firstO
  split
  · exact Nat.le_refl _
  · exact List.length_take_le' _ _
theorem c_sDescend {c : Ck} {xs : List Int} {sp : Option PA} {n cap : Nat} (hx : Rdr c (sp, n, cap) LN xs) (hxl : xs.length ≤ 2147483647) {p k : Int} {G : PA → Prop} (hG : Star [c] h G) :
    HT Try.prog fn_laws_sDescend [.c (.sl sp n cap), .c (.int .i64 p), .c (.int .i64 k)] false [.c .bool] h fun r h' => ∃ post, (r = (true, ()) ∧ post = [c]) ∧ St h G post h' := by
  apply hc_laws_sDescend
  unfold M_laws_sDescend
  have hsl := setO_len xs
  have hdl := dnO_len [] (setO xs) (p, 0)
  have hfl := firstO_lenS (dnO [] (setO xs) (p, 0)) k
  have hio := iO_len xs
  refine st_callT (St.start hG) [.ck c] (fun G hG => c_SDescend (p := p) (k := k) hx hxl hG) ?_
  rintro _ _ _ ⟨s1, rfl, hs1, rfl⟩ S
  dsimp only [List.cons_append, List.nil_append] at S
  refine st_callT S [.ck c] (fun G hG => c_specItems hx (by omega) hG) ?_
  rintro _ _ _ ⟨s2, rfl, hs2, rfl⟩ S
  dsimp only [List.cons_append, List.nil_append] at S
  refine st_callT S [.sl s2] (fun G hG => c_GDescend (x := (p, 0)) (k := k) Rdr.nil (by decide) hs2.rdr (by omega) hG) ?_
  rintro _ _ _ ⟨s3, t3, rfl, hs3, rfl⟩ S
  dsimp only [List.cons_append, List.nil_append] at S
  have e : treeO [] (iO xs) = setO xs := rfl
  rw [e] at hs3 S
  refine st_callT S [.sl t3] (fun G hG => c_specKeys hs3 (by omega) hG) ?_
  rintro _ _ _ ⟨s4, rfl, hs4, rfl⟩ S
  dsimp only [List.cons_append, List.nil_append] at S
  (have S := S.ats [.sl s1, .sl s4]; refine st_callT (l := StC [SlC s1 LN.sz (LN.flat (yO (firstO (dnO [] (setO xs) (p, 0)) k))), SlC s4 LN.sz (LN.flat (yO (firstO (dnO [] (setO xs) (p, 0)) k)))] :: _) (St.st_in (m := [_, _]) S) [.ck (StC [SlC s1 LN.sz (LN.flat (yO (firstO (dnO [] (setO xs) (p, 0)) k))), SlC s4 LN.sz (LN.flat (yO (firstO (dnO [] (setO xs) (p, 0)) k)))])] (fun G hG => c_EqualInts (Rdr.st (i := 0) rfl hs1.rdr) (Rdr.st (i := 1) rfl hs4.rdr) (by rw [yO_len]; omega) hG) ?_)
  rintro _ _ _ ⟨rfl, rfl⟩ S
  dsimp only [List.cons_append, List.nil_append] at S
  have S := St.st_out S
  dsimp only [List.cons_append, List.nil_append] at S
  exact rt_1 rfl ⟨_, ⟨by simp, rfl⟩, S.only [.ck c]⟩
theorem c_FnExactSDescend {hI : H} {xs : List Int} {sp : Option PA} {n cap : Nat} (hx : Rdr (BaC hI) (sp, n, cap) LN xs) {p k : Int} {G : PA → Prop} (hG : Star [BaC hI] h G) :
    HT Try.prog fn_laws_FnExactSDescend [.c (.sl sp n cap), .c (.int .i64 p), .c (.int .i64 k)] false [.c .bool] h fun r h' => ∃ post, (r = (true, ()) ∧ post = [BaC hI]) ∧ St h G post h' := by
  apply hc_laws_FnExactSDescend
  unfold M_laws_FnExactSDescend
  have hn : n = xs.length := hx.1
  have S := St.start hG
  by_cases hbig : n > 2147483647
  · exact w_true (decide_eq_true (by omega)) (rt_1 rfl ⟨_, ⟨rfl, rfl⟩, S⟩)
  refine w_false (decide_eq_false (by omega)) (w_bnd ?_)
  refine st_alloc S fun ne _ S => ?_
  have S := S.re (ne, 0) (LN.flat exS) 0 rfl rfl rfl
  refine st_callT S [.ow (ne, 0)] (fun G hG => c_sDescend (p := 4) (k := 2) (xs := exS) (Rdr.ow (xs := exS) rfl) (by decide) hG) ?_
  rintro _ _ _ ⟨rfl, rfl⟩ S
  dsimp only [List.cons_append, List.nil_append] at S
  refine w_true rfl ?_
  refine st_callT S [.ck (BaC hI)] (fun G hG => c_sDescend (p := p) (k := k) hx (by omega) hG) ?_
  rintro _ _ _ ⟨rfl, rfl⟩ S
  dsimp only [List.cons_append, List.nil_append] at S
  exact bd_n rfl (rt_1 rfl ⟨_, ⟨rfl, rfl⟩, S.only [.ck (BaC hI)]⟩)
end
end Go.Proofs.Ytpbmahnieepmiaa
