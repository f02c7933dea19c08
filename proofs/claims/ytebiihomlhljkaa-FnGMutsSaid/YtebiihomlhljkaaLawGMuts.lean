/-
  The law FnGMuts. Conditions: none.
-/
import Derived.Test.YtebiihomlhljkaaYal
import Derived.Test.YtebiihomlhljkaaYmu
set_option linter.unusedVariables false
set_option linter.unusedSimpArgs false
set_option linter.unusedSectionVars false
set_option maxRecDepth 100000
namespace Go.Proofs.Ytebiihomlhljkaa
open Go

def M_laws_FnGMuts (a00p : Option PA) (a00l : Nat) (a00c : Nat) (a01 : Int) (a02 : Bool) (a1p : Option PA) (a1l : Nat) (a1c : Nat) (a2p : Option PA) (a2l : Nat) (a2c : Nat) (a3p : Option PA) (a3l : Nat) (a3c : Nat) : M :=
  .alloc ty_impl_Make [.sl (a00p) (a00l) (a00c), .int .i64 (a01), .bool (a02)] fun n0 =>
  .bind none (.load (n0, 0) (.sl) fun s1 =>
    .load (n0, 1) (.int .i64) fun i2 =>
    .load (n0, 2) (.bool) fun b3 =>
    .call fn_laws_zzFits1 [.agg [.sl (s1.fst) (s1.snd.fst) (s1.snd.snd), .int .i64 (i2), .bool (b3)]] false [.c (.bool)] fun r4 =>
    .ite (!r4.fst)
    (.done .normal [.c (.tt)])
    (.ite (decide ((↑a1l : Int) > 2147483647))
      (.done .normal [.c (.tt)])
      (.ite (decide ((↑a2l : Int) > 2147483647))
        (.done .normal [.c (.tt)])
        (.done .normal [.c (.bool (decide ((↑a3l : Int) > 2147483647)))])))) [.c (.bool)] fun x5 =>
  .ite (x5.fst)
  (.done .ret [.c (.tt)])
  (.load (n0, 0) (.sl) fun s6 =>
    .load (n0, 1) (.int .i64) fun i7 =>
    .load (n0, 2) (.bool) fun b8 =>
    .call fn_laws_fits [.agg [.sl (s6.fst) (s6.snd.fst) (s6.snd.snd), .int .i64 (i7), .bool (b8)]] false [.c (.bool)] fun r9 =>
    .ite (!r9.fst)
    (.call fn_laws_alive [] false [.c (.bool)] fun r10 =>
      .done .ret [.c (.bool (r10.fst))])
    (.bind none (.load (n0, 0) (.sl) fun s11 =>
        .load (n0, 1) (.int .i64) fun i12 =>
        .load (n0, 2) (.bool) fun b13 =>
        .load (n0, 0) (.sl) fun s14 =>
        .load (n0, 1) (.int .i64) fun i15 =>
        .load (n0, 2) (.bool) fun b16 =>
        .call fn_impl_GGetMut [.agg [.sl (s11.fst) (s11.snd.fst) (s11.snd.snd), .int .i64 (i12), .bool (b13)], .c (.sl (a1p) (a1l) (a1c)), .c (.sl (a2p) (a2l) (a2c))] false [.c (.sl)] fun r17 =>
        .held (n0, 0) (.sl (s14.fst) (s14.snd.fst) (s14.snd.snd)) <|
        .held (n0, 1) (.int .i64 (i15)) <|
        .held (n0, 2) (.bool (b16)) <|
        .call fn_impl_GGet [.agg [.sl (s14.fst) (s14.snd.fst) (s14.snd.snd), .int .i64 (i15), .bool (b16)], .c (.sl (a1p) (a1l) (a1c)), .c (.sl (a2p) (a2l) (a2c))] false [.c (.sl)] fun r18 =>
        .call fn_slices_Equal_impl_Found_impl_Found [.c (.sl (r17.fst.fst) (r17.fst.snd.fst) (r17.fst.snd.snd)), .c (.sl (r18.fst.fst) (r18.fst.snd.fst) (r18.fst.snd.snd))] false [.c (.bool)] fun r19 =>
        .ite (r19.fst)
        (.load (n0, 0) (.sl) fun s20 =>
          .load (n0, 1) (.int .i64) fun i21 =>
          .load (n0, 2) (.bool) fun b22 =>
          .load (n0, 0) (.sl) fun s23 =>
          .load (n0, 1) (.int .i64) fun i24 =>
          .load (n0, 2) (.bool) fun b25 =>
          .call fn_impl_GGetAtMut [.agg [.sl (s20.fst) (s20.snd.fst) (s20.snd.snd), .int .i64 (i21), .bool (b22)], .c (.sl (a1p) (a1l) (a1c)), .c (.sl (a3p) (a3l) (a3c))] false [.c (.sl)] fun r26 =>
          .held (n0, 0) (.sl (s23.fst) (s23.snd.fst) (s23.snd.snd)) <|
          .held (n0, 1) (.int .i64 (i24)) <|
          .held (n0, 2) (.bool (b25)) <|
          .call fn_impl_GGetAt [.agg [.sl (s23.fst) (s23.snd.fst) (s23.snd.snd), .int .i64 (i24), .bool (b25)], .c (.sl (a1p) (a1l) (a1c)), .c (.sl (a3p) (a3l) (a3c))] false [.c (.sl)] fun r27 =>
          .call fn_slices_Equal_impl_Found_impl_Found [.c (.sl (r26.fst.fst) (r26.fst.snd.fst) (r26.fst.snd.snd)), .c (.sl (r27.fst.fst) (r27.fst.snd.fst) (r27.fst.snd.snd))] false [.c (.bool)] fun r28 =>
          .ite (r28.fst)
          (.load (n0, 0) (.sl) fun s29 =>
            .load (n0, 1) (.int .i64) fun i30 =>
            .load (n0, 2) (.bool) fun b31 =>
            .load (n0, 0) (.sl) fun s32 =>
            .load (n0, 1) (.int .i64) fun i33 =>
            .load (n0, 2) (.bool) fun b34 =>
            .call fn_impl_GMinMut [.agg [.sl (s29.fst) (s29.snd.fst) (s29.snd.snd), .int .i64 (i30), .bool (b31)], .c (.sl (a1p) (a1l) (a1c))] false [.agg [.int .i64, .int .i64, .bool]] fun r35 =>
            .held (n0, 0) (.sl (s32.fst) (s32.snd.fst) (s32.snd.snd)) <|
            .held (n0, 1) (.int .i64 (i33)) <|
            .held (n0, 2) (.bool (b34)) <|
            .call fn_impl_GMin [.agg [.sl (s32.fst) (s32.snd.fst) (s32.snd.snd), .int .i64 (i33), .bool (b34)], .c (.sl (a1p) (a1l) (a1c))] false [.agg [.int .i64, .int .i64, .bool]] fun r36 =>
            .ite (r35.fst.fst == r36.fst.fst && (r35.fst.snd.fst == r36.fst.snd.fst && true) && (r35.fst.snd.snd.fst == r36.fst.snd.snd.fst && true))
            (.load (n0, 0) (.sl) fun s37 =>
              .load (n0, 1) (.int .i64) fun i38 =>
              .load (n0, 2) (.bool) fun b39 =>
              .load (n0, 0) (.sl) fun s40 =>
              .load (n0, 1) (.int .i64) fun i41 =>
              .load (n0, 2) (.bool) fun b42 =>
              .call fn_impl_GMaxMut [.agg [.sl (s37.fst) (s37.snd.fst) (s37.snd.snd), .int .i64 (i38), .bool (b39)], .c (.sl (a1p) (a1l) (a1c))] false [.agg [.int .i64, .int .i64, .bool]] fun r43 =>
              .held (n0, 0) (.sl (s40.fst) (s40.snd.fst) (s40.snd.snd)) <|
              .held (n0, 1) (.int .i64 (i41)) <|
              .held (n0, 2) (.bool (b42)) <|
              .call fn_impl_GMax [.agg [.sl (s40.fst) (s40.snd.fst) (s40.snd.snd), .int .i64 (i41), .bool (b42)], .c (.sl (a1p) (a1l) (a1c))] false [.agg [.int .i64, .int .i64, .bool]] fun r44 =>
              .ite (r43.fst.fst == r44.fst.fst && (r43.fst.snd.fst == r44.fst.snd.fst && true) && (r43.fst.snd.snd.fst == r44.fst.snd.snd.fst && true))
              (.load (n0, 0) (.sl) fun s45 =>
                .load (n0, 1) (.int .i64) fun i46 =>
                .load (n0, 2) (.bool) fun b47 =>
                .load (n0, 0) (.sl) fun s48 =>
                .load (n0, 1) (.int .i64) fun i49 =>
                .load (n0, 2) (.bool) fun b50 =>
                .call fn_impl_GItemsMut [.agg [.sl (s45.fst) (s45.snd.fst) (s45.snd.snd), .int .i64 (i46), .bool (b47)], .c (.sl (a1p) (a1l) (a1c))] false [.c (.sl)] fun r51 =>
                .held (n0, 0) (.sl (s48.fst) (s48.snd.fst) (s48.snd.snd)) <|
                .held (n0, 1) (.int .i64 (i49)) <|
                .held (n0, 2) (.bool (b50)) <|
                .call fn_impl_GItems [.agg [.sl (s48.fst) (s48.snd.fst) (s48.snd.snd), .int .i64 (i49), .bool (b50)], .c (.sl (a1p) (a1l) (a1c))] false [.c (.sl)] fun r52 =>
                .call fn_slices_Equal_impl_Item_impl_Item [.c (.sl (r51.fst.fst) (r51.fst.snd.fst) (r51.fst.snd.snd)), .c (.sl (r52.fst.fst) (r52.fst.snd.fst) (r52.fst.snd.snd))] false [.c (.bool)] fun r53 =>
                .ite (r53.fst)
                (.call fn_laws_alive [] false [.c (.bool)] fun r54 =>
                  .done .normal [.c (.bool (r54.fst))])
                (.done .normal [.c (.ff)]))
              (.done .normal [.c (.ff)]))
            (.done .normal [.c (.ff)]))
          (.done .normal [.c (.ff)]))
        (.done .normal [.c (.ff)])) [.c (.bool)] fun x55 =>
      .done .ret [.c (.bool (x55.fst))]))

theorem den_laws_FnGMuts (a00p : Option PA) (a00l : Nat) (a00c : Nat) (a01 : Int) (a02 : Bool) (a1p : Option PA) (a1l : Nat) (a1c : Nat) (a2p : Option PA) (a2l : Nat) (a2c : Nat) (a3p : Option PA) (a3l : Nat) (a3c : Nat) : denFn Try.prog Try.f5 [.agg [.sl a00p a00l a00c, .int .i64 a01, .bool a02], .c (.sl a1p a1l a1c), .c (.sl a2p a2l a2c), .c (.sl a3p a3l a3c)] = M_laws_FnGMuts a00p a00l a00c a01 a02 a1p a1l a1c a2p a2l a2c a3p a3l a3c := by kernel_rfl
theorem hc_laws_FnGMuts (a00p : Option PA) (a00l : Nat) (a00c : Nat) (a01 : Int) (a02 : Bool) (a1p : Option PA) (a1l : Nat) (a1c : Nat) (a2p : Option PA) (a2l : Nat) (a2c : Nat) (a3p : Option PA) (a3l : Nat) (a3c : Nat) {h : H} {R : Value → H → Prop} (hw : wp Try.prog (M_laws_FnGMuts a00p a00l a00c a01 a02 a1p a1l a1c a2p a2l a2c a3p a3l a3c) (Ret R) h) : HC Try.prog fn_laws_FnGMuts (List.map AV.val [.agg [.sl a00p a00l a00c, .int .i64 a01, .bool a02], .c (.sl a1p a1l a1c), .c (.sl a2p a2l a2c), .c (.sl a3p a3l a3c)]).toArray h R :=
  den_calls hmix Try.func5 (of_decide_eq_true rfl) (by rw [den_laws_FnGMuts]; exact hw)


section
variable {h : H}
set_option maxHeartbeats 2000000 in
theorem c_FnGMuts {hI : H} {o : List Int} {op : Option PA} {on oc : Nat} (hr : Rdr (BaC hI) (op, on, oc) LN o) {d : Int} {nl : Bool} {xs : List IV} {sp : Option PA} {n cap : Nat} (hx : Rdr (BaC hI) (sp, n, cap) LT xs) {ks : List IV} {kp : Option PA} {kn kc : Nat} (hk : Rdr (BaC hI) (kp, kn, kc) LT ks) {is : List Int} {ap : Option PA} {an ac : Nat} (ha : Rdr (BaC hI) (ap, an, ac) LN is) {G : PA → Prop} (hG : Star [BaC hI] h G) :
    HT Try.prog fn_laws_FnGMuts [.agg [.sl op on oc, .int .i64 d, .bool nl], .c (.sl sp n cap), .c (.sl kp kn kc), .c (.sl ap an ac)] false [.c .bool] h fun r h' => ∃ post, (r = (true, ()) ∧ post = [BaC hI]) ∧ St h G post h' := by
  apply hc_laws_FnGMuts
  unfold M_laws_FnGMuts
  have hn : n = xs.length := hx.1
  have hkn : kn = ks.length := hk.1
  have han : an = is.length := ha.1
  have htl := treeO_len o xs
  have hno : on = o.length := hr.1
  refine st_alloc (St.start hG) fun n0 _ S => ?_
  refine w_mid' none (fun (y : SV [.c .bool]) h' => (y = (true, ()) ∨ y = (false, ()) ∧ on ≤ 2147483647 ∧ n ≤ 2147483647 ∧ kn ≤ 2147483647 ∧ an ≤ 2147483647) ∧ St h G [Ow (n0, 0) (List.map Cell.val [.sl op on oc, .int .i64 d, .bool nl]) 0, BaC hI] h') ?_ ?_
  · refine ld_sl S op on oc rfl (ld_int S rfl (ld_bool S rfl ?_))
    refine st_callT S [] (fun G hG => c_zzFits1 hG) ?_
    rintro _ _ _ ⟨rfl, rfl⟩ S
    dsimp only [List.cons_append, List.nil_append] at S
    by_cases hbo : on > 2147483647
    · exact w_true (by rw [decide_eq_false (by (first | omega | ((try dsimp only [Sh.T, Sh1.T]); omega)))]; rfl) (md_n rfl ⟨.inl rfl, S.only [.ow (n0, 0), .ck (BaC hI)]⟩)
    refine w_false (by rw [decide_eq_true (by (first | omega | ((try dsimp only [Sh.T, Sh1.T]); omega)))]; rfl) ?_
    by_cases hb0 : n > 2147483647
    · exact w_true (decide_eq_true (by omega)) (md_n rfl ⟨.inl rfl, S.only [.ow (n0, 0), .ck (BaC hI)]⟩)
    refine w_false (decide_eq_false (by omega)) ?_
    by_cases hb1 : kn > 2147483647
    · exact w_true (decide_eq_true (by omega)) (md_n rfl ⟨.inl rfl, S.only [.ow (n0, 0), .ck (BaC hI)]⟩)
    refine w_false (decide_eq_false (by omega)) ?_
    by_cases hb2 : an > 2147483647
    · exact md_n (x := (true, ())) (by rw [decide_eq_true (by omega)]; rfl) ⟨.inl rfl, S.only [.ow (n0, 0), .ck (BaC hI)]⟩
    exact md_n (x := (false, ())) (by rw [decide_eq_false (by omega)]; rfl) ⟨.inr ⟨rfl, by omega, by omega, by omega, by omega⟩, S.only [.ow (n0, 0), .ck (BaC hI)]⟩
  rintro _ _ ⟨rfl | ⟨rfl, hz0, hz1, hz2, hz3⟩, S⟩
  · exact w_true rfl (rt_1 rfl ⟨_, ⟨rfl, rfl⟩, S.only [.ck (BaC hI)]⟩)
  refine w_false rfl ?_
  refine ld_sl S op on oc rfl (ld_int S rfl (ld_bool S rfl ?_))
  refine st_callT S [] (fun G hG => c_fits hG) ?_
  rintro _ _ _ ⟨rfl, rfl⟩ S
  dsimp only [List.cons_append, List.nil_append] at S
  by_cases hf : d = 0 ∨ 2 ≤ d ∧ d ≤ 128
  case neg =>
    refine w_true (by rw [decide_eq_false hf]; rfl) ?_
    refine st_callT S [] (fun G hG => c_alive hG) ?_
    rintro _ _ _ ⟨rfl, rfl⟩ S
    dsimp only [List.cons_append, List.nil_append] at S
    exact rt_1 rfl ⟨_, ⟨rfl, rfl⟩, S.only [.ck (BaC hI)]⟩
  refine w_false (by rw [decide_eq_true hf]; rfl) ?_
  refine w_bnd ?_
  (refine ld_sl S op on oc rfl (ld_int S rfl (ld_bool S rfl ?_)))
  (refine ld_sl S op on oc rfl (ld_int S rfl (ld_bool S rfl ?_)))
  refine st_callT S [.ck (BaC hI)] (fun G hG => c_GGetMutI hr (by omega) (by omega) hx (by omega) hk (by omega) hG) ?_
  rintro _ _ _ ⟨s1, rfl, h1, rfl⟩ S
  dsimp only [List.cons_append, List.nil_append] at S
  have S := S.ats [.ow (n0, 0), .ck (BaC hI)]
  refine st_held S rfl (st_held S rfl (st_held S rfl ?_))
  refine st_callT S [.ck (BaC hI)] (fun G hG => c_GGetI hr (by omega) (by omega) hx (by omega) hk (by omega) hG) ?_
  rintro _ _ _ ⟨s2, rfl, h2, rfl⟩ S
  dsimp only [List.cons_append, List.nil_append] at S
  refine st_eqF S h1 h2 (by rw [getsF_len]; omega) fun _ S => ?_
  have S := S.only [.ow (n0, 0), .ck (BaC hI)]
  refine w_true rfl ?_
  (refine ld_sl S op on oc rfl (ld_int S rfl (ld_bool S rfl ?_)))
  (refine ld_sl S op on oc rfl (ld_int S rfl (ld_bool S rfl ?_)))
  refine st_callT S [.ck (BaC hI)] (fun G hG => c_GGetAtMutI hr (by omega) (by omega) hx (by omega) ha (by omega) hG) ?_
  rintro _ _ _ ⟨s3, rfl, h3, rfl⟩ S
  dsimp only [List.cons_append, List.nil_append] at S
  have S := S.ats [.ow (n0, 0), .ck (BaC hI)]
  refine st_held S rfl (st_held S rfl (st_held S rfl ?_))
  refine st_callT S [.ck (BaC hI)] (fun G hG => c_GGetAt1 hr (by omega) (by omega) hx (by omega) ha (by omega) hG) ?_
  rintro _ _ _ ⟨s4, rfl, h4, rfl⟩ S
  dsimp only [List.cons_append, List.nil_append] at S
  refine st_eqF S h3 h4 (by rw [atsF_len]; omega) fun _ S => ?_
  have S := S.only [.ow (n0, 0), .ck (BaC hI)]
  refine w_true rfl ?_
  (refine ld_sl S op on oc rfl (ld_int S rfl (ld_bool S rfl ?_)))
  (refine ld_sl S op on oc rfl (ld_int S rfl (ld_bool S rfl ?_)))
  refine st_callT S [.ck (BaC hI)] (fun G hG => c_GMinMutI hr (by omega) (by omega) hx (by omega) hG) ?_
  rintro _ _ _ ⟨rfl, rfl⟩ S
  dsimp only [List.cons_append, List.nil_append] at S
  have S := S.ats [.ow (n0, 0), .ck (BaC hI)]
  refine st_held S rfl (st_held S rfl (st_held S rfl ?_))
  refine st_callT S [.ck (BaC hI)] (fun G hG => c_GMinI hr (by omega) (by omega) hx (by omega) hG) ?_
  rintro _ _ _ ⟨rfl, rfl⟩ S
  dsimp only [List.cons_append, List.nil_append] at S
  have S := S.ats [.ow (n0, 0), .ck (BaC hI)]
  refine w_true (eqF _) ?_
  (refine ld_sl S op on oc rfl (ld_int S rfl (ld_bool S rfl ?_)))
  (refine ld_sl S op on oc rfl (ld_int S rfl (ld_bool S rfl ?_)))
  refine st_callT S [.ck (BaC hI)] (fun G hG => c_GMaxMutI hr (by omega) (by omega) hx (by omega) hG) ?_
  rintro _ _ _ ⟨rfl, rfl⟩ S
  dsimp only [List.cons_append, List.nil_append] at S
  have S := S.ats [.ow (n0, 0), .ck (BaC hI)]
  refine st_held S rfl (st_held S rfl (st_held S rfl ?_))
  refine st_callT S [.ck (BaC hI)] (fun G hG => c_GMaxI hr (by omega) (by omega) hx (by omega) hG) ?_
  rintro _ _ _ ⟨rfl, rfl⟩ S
  dsimp only [List.cons_append, List.nil_append] at S
  have S := S.ats [.ow (n0, 0), .ck (BaC hI)]
  refine w_true (eqF _) ?_
  (refine ld_sl S op on oc rfl (ld_int S rfl (ld_bool S rfl ?_)))
  (refine ld_sl S op on oc rfl (ld_int S rfl (ld_bool S rfl ?_)))
  refine st_callT S [.ck (BaC hI)] (fun G hG => c_GItemsMutI hr (by omega) (by omega) hx (by omega) hG) ?_
  rintro _ _ _ ⟨s5, rfl, h5, rfl⟩ S
  dsimp only [List.cons_append, List.nil_append] at S
  have S := S.ats [.ow (n0, 0), .ck (BaC hI)]
  refine st_held S rfl (st_held S rfl (st_held S rfl ?_))
  refine st_callT S [.ck (BaC hI)] (fun G hG => c_GItems hr (by omega) (by omega) hx (by omega) hG) ?_
  rintro _ _ _ ⟨s6, rfl, h6, rfl⟩ S
  dsimp only [List.cons_append, List.nil_append] at S
  refine st_eqT S (.sl s5) (.sl s6) h5.rdr h6.rdr (by omega) fun _ S => ?_
  refine w_true (by simp) ?_
  (refine st_callT S [] (fun G hG => c_alive hG) ?_; rintro _ _ _ ⟨rfl, rfl⟩ S; dsimp only [List.cons_append, List.nil_append] at S)
  exact bd_n rfl (rt_1 rfl ⟨_, ⟨rfl, rfl⟩, S.only [.ck (BaC hI)]⟩)
end
end Go.Proofs.Ytebiihomlhljkaa
