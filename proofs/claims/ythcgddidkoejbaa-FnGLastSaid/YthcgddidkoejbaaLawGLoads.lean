/-
  The laws FnGLoadsAny and FnGLast. Conditions: none.
-/
import Derived.Test.YthcgddidkoejbaaYal
import Derived.Test.YthcgddidkoejbaaPf
set_option linter.unusedVariables false
set_option linter.unusedSimpArgs false
set_option linter.unusedSectionVars false
set_option maxRecDepth 100000
namespace Go.Proofs.Ythcgddidkoejbaa
open Go

def M_laws_FnGLoadsAny (a00p : Option PA) (a00l : Nat) (a00c : Nat) (a01 : Int) (a02 : Bool) (a1p : Option PA) (a1l : Nat) (a1c : Nat) : M :=
  .alloc ty_impl_Make [.sl (a00p) (a00l) (a00c), .int .i64 (a01), .bool (a02)] fun n0 =>
  .bind none (.load (n0, 0) (.sl) fun s1 =>
    .load (n0, 1) (.int .i64) fun i2 =>
    .load (n0, 2) (.bool) fun b3 =>
    .call fn_laws_zzFits1 [.agg [.sl (s1.fst) (s1.snd.fst) (s1.snd.snd), .int .i64 (i2), .bool (b3)]] false [.c (.bool)] fun r4 =>
    .ite (!r4.fst)
    (.done .normal [.c (.tt)])
    (.done .normal [.c (.bool (decide ((↑a1l : Int) > 2147483647)))])) [.c (.bool)] fun x5 =>
  .ite (x5.fst)
  (.done .ret [.c (.tt)])
  (.load (n0, 0) (.sl) fun s6 =>
    .load (n0, 1) (.int .i64) fun i7 =>
    .load (n0, 2) (.bool) fun b8 =>
    .call fn_laws_fits [.agg [.sl (s6.fst) (s6.snd.fst) (s6.snd.snd), .int .i64 (i7), .bool (b8)]] false [.c (.bool)] fun r9 =>
    .ite (!r9.fst)
    (.call fn_laws_alive [] false [.c (.bool)] fun r10 =>
      .done .ret [.c (.bool (r10.fst))])
    (.load (n0, 0) (.sl) fun s11 =>
      .load (n0, 1) (.int .i64) fun i12 =>
      .load (n0, 2) (.bool) fun b13 =>
      .call fn_impl_GLoad [.agg [.sl (s11.fst) (s11.snd.fst) (s11.snd.snd), .int .i64 (i12), .bool (b13)], .c (.sl (a1p) (a1l) (a1c))] true [.c (.sl), .c (.sl)] fun r14 =>
      .load (n0, 0) (.sl) fun s15 =>
      .load (n0, 1) (.int .i64) fun i16 =>
      .load (n0, 2) (.bool) fun b17 =>
      .call fn_impl_GSet [.agg [.sl (s15.fst) (s15.snd.fst) (s15.snd.snd), .int .i64 (i16), .bool (b17)], .c (.sl (a1p) (a1l) (a1c))] true [.c (.sl), .c (.sl)] fun r18 =>
      .bind none (.call fn_slices_Equal_impl_Found_impl_Found [.c (.sl (r14.fst.fst) (r14.fst.snd.fst) (r14.fst.snd.snd)), .c (.sl (r18.fst.fst) (r18.fst.snd.fst) (r18.fst.snd.snd))] false [.c (.bool)] fun r19 =>
        .ite (r19.fst)
        (.call fn_slices_Equal_impl_Item_impl_Item [.c (.sl (r14.snd.fst.fst) (r14.snd.fst.snd.fst) (r14.snd.fst.snd.snd)), .c (.sl (r18.snd.fst.fst) (r18.snd.fst.snd.fst) (r18.snd.fst.snd.snd))] false [.c (.bool)] fun r20 =>
          .ite (r20.fst)
          (.call fn_laws_alive [] false [.c (.bool)] fun r21 =>
            .done .normal [.c (.bool (r21.fst))])
          (.done .normal [.c (.ff)]))
        (.done .normal [.c (.ff)])) [.c (.bool)] fun x22 =>
      .done .ret [.c (.bool (x22.fst))]))

theorem den_laws_FnGLoadsAny (a00p : Option PA) (a00l : Nat) (a00c : Nat) (a01 : Int) (a02 : Bool) (a1p : Option PA) (a1l : Nat) (a1c : Nat) : denFn Try.prog Try.f13 [.agg [.sl a00p a00l a00c, .int .i64 a01, .bool a02], .c (.sl a1p a1l a1c)] = M_laws_FnGLoadsAny a00p a00l a00c a01 a02 a1p a1l a1c := by kernel_rfl
theorem hc_laws_FnGLoadsAny (a00p : Option PA) (a00l : Nat) (a00c : Nat) (a01 : Int) (a02 : Bool) (a1p : Option PA) (a1l : Nat) (a1c : Nat) {h : H} {R : Value → H → Prop} (hw : wp Try.prog (M_laws_FnGLoadsAny a00p a00l a00c a01 a02 a1p a1l a1c) (Ret R) h) : HC Try.prog fn_laws_FnGLoadsAny (List.map AV.val [.agg [.sl a00p a00l a00c, .int .i64 a01, .bool a02], .c (.sl a1p a1l a1c)]).toArray h R :=
  den_calls hmix Try.func13 (of_decide_eq_true rfl) (by rw [den_laws_FnGLoadsAny]; exact hw)

def M_laws_FnGLast (a00p : Option PA) (a00l : Nat) (a00c : Nat) (a01 : Int) (a02 : Bool) (a1p : Option PA) (a1l : Nat) (a1c : Nat) : M :=
  .alloc ty_impl_Make [.sl (a00p) (a00l) (a00c), .int .i64 (a01), .bool (a02)] fun n0 =>
  .bind none (.load (n0, 0) (.sl) fun s1 =>
    .load (n0, 1) (.int .i64) fun i2 =>
    .load (n0, 2) (.bool) fun b3 =>
    .call fn_laws_zzFits1 [.agg [.sl (s1.fst) (s1.snd.fst) (s1.snd.snd), .int .i64 (i2), .bool (b3)]] false [.c (.bool)] fun r4 =>
    .ite (!r4.fst)
    (.done .normal [.c (.tt)])
    (.done .normal [.c (.bool (decide ((↑a1l : Int) > 2147483647)))])) [.c (.bool)] fun x5 =>
  .ite (x5.fst)
  (.done .ret [.c (.tt)])
  (.load (n0, 0) (.sl) fun s6 =>
    .load (n0, 1) (.int .i64) fun i7 =>
    .load (n0, 2) (.bool) fun b8 =>
    .call fn_laws_fits [.agg [.sl (s6.fst) (s6.snd.fst) (s6.snd.snd), .int .i64 (i7), .bool (b8)]] false [.c (.bool)] fun r9 =>
    .ite (!r9.fst)
    (.call fn_laws_alive [] false [.c (.bool)] fun r10 =>
      .done .ret [.c (.bool (r10.fst))])
    (.load (n0, 0) (.sl) fun s11 =>
      .load (n0, 1) (.int .i64) fun i12 =>
      .load (n0, 2) (.bool) fun b13 =>
      .call fn_impl_GSet [.agg [.sl (s11.fst) (s11.snd.fst) (s11.snd.snd), .int .i64 (i12), .bool (b13)], .c (.sl (a1p) (a1l) (a1c))] true [.c (.sl), .c (.sl)] fun r14 =>
      .ite ((↑r14.fst.snd.fst : Int) != (↑a1l : Int))
      (.done .ret [.c (.ff)])
      (.bind (some 0) (.loop [.c (.int .i64)] [.c (.int .i64 (0))] fun y15 =>
            .ite (decide (y15.fst < (↑a1l : Int)))
            (.nonnil (a1p) fun p16 =>
              .guard (((0 : Int) ≤ y15.fst) ∧ ((y15.fst : Int) < (↑a1l : Int))) <|
              .load (p16.fst, p16.snd + mulN (Int.toNat y15.fst) 2) (.int .i64) fun i17 =>
              .load (p16.fst, p16.snd + mulN (Int.toNat y15.fst) 2 + 1) (.int .i64) fun i18 =>
              .alloc ty_impl_Item [.int .i64 (0), .int .i64 (0)] fun n19 =>
              .store (n19, 0) (.int .i64 (i17)) <|
              .store (n19, 1) (.int .i64 (i18)) <|
              .alloc ty_impl_Found [.int .i64 (0), .int .i64 (0), .ff] fun n20 =>
              .store (n20, 0) (.int .i64 (0)) <|
              .store (n20, 1) (.int .i64 (0)) <|
              .store (n20, 2) (.ff) <|
              .guard (((0 : Int) ≤ y15.fst) ∧ ((y15.fst : Int) ≤ (↑a1c : Int))) <|
              .bind (some 2) (.loop [.c (.int .i64)] [.c (.int .i64 (0))] fun y21 =>
                  .ite (decide (y21.fst < (↑(Int.toNat y15.fst - 0) : Int)))
                  (.nonnil (slBase a1p a1c 0 2) fun p22 =>
                    .guard (((0 : Int) ≤ y21.fst) ∧ ((y21.fst : Int) < (↑(Int.toNat y15.fst - 0) : Int))) <|
                    .load (p22.fst, p22.snd + mulN (Int.toNat y21.fst) 2) (.int .i64) fun i23 =>
                    .load (p22.fst, p22.snd + mulN (Int.toNat y21.fst) 2 + 1) (.int .i64) fun i24 =>
                    .alloc ty_impl_Item [.int .i64 (0), .int .i64 (0)] fun n25 =>
                    .store (n25, 0) (.int .i64 (i23)) <|
                    .store (n25, 1) (.int .i64 (i24)) <|
                    .bind none (.load (n0, 0) (.sl) fun s26 =>
                      .load (n19, 0) (.int .i64) fun i27 =>
                      .load (n19, 1) (.int .i64) fun i28 =>
                      .load (n25, 0) (.int .i64) fun i29 =>
                      .load (n25, 1) (.int .i64) fun i30 =>
                      .call fn_spec_Before [.c (.sl (s26.fst) (s26.snd.fst) (s26.snd.snd)), .agg [.int .i64 (i27), .int .i64 (i28)], .agg [.int .i64 (i29), .int .i64 (i30)]] false [.c (.bool)] fun r31 =>
                      .ite (!r31.fst)
                      (.load (n0, 0) (.sl) fun s32 =>
                        .load (n25, 0) (.int .i64) fun i33 =>
                        .load (n25, 1) (.int .i64) fun i34 =>
                        .load (n19, 0) (.int .i64) fun i35 =>
                        .load (n19, 1) (.int .i64) fun i36 =>
                        .call fn_spec_Before [.c (.sl (s32.fst) (s32.snd.fst) (s32.snd.snd)), .agg [.int .i64 (i33), .int .i64 (i34)], .agg [.int .i64 (i35), .int .i64 (i36)]] false [.c (.bool)] fun r37 =>
                        .done .normal [.c (.bool (!r37.fst))])
                      (.done .normal [.c (.ff)])) [.c (.bool)] fun x38 =>
                    .bind none (.ite (x38.fst)
                      (.load (n25, 0) (.int .i64) fun i39 =>
                        .load (n25, 1) (.int .i64) fun i40 =>
                        .store (n20, 0) (.int .i64 (i39)) <|
                        .store (n20, 1) (.int .i64 (i40)) <|
                        .store (n20, 2) (.tt) <|
                        .done .normal [])
                      (.done .normal [])) [] fun x41 =>
                    .guard (InK IntKind.i64 (y21.fst + 1)) <|
                    .done .normal [.c (.int .i64 (y21.fst + 1))])
                  (.done (.exit 2) [])) [] fun x42 =>
              .nonnil (r14.fst.fst) fun p43 =>
              .guard (((0 : Int) ≤ y15.fst) ∧ ((y15.fst : Int) < (↑r14.fst.snd.fst : Int))) <|
              .load (p43.fst, p43.snd + mulN (Int.toNat y15.fst) 3) (.int .i64) fun i44 =>
              .load (p43.fst, p43.snd + mulN (Int.toNat y15.fst) 3 + 1) (.int .i64) fun i45 =>
              .load (p43.fst, p43.snd + mulN (Int.toNat y15.fst) 3 + 2) (.bool) fun b46 =>
              .load (n20, 0) (.int .i64) fun i47 =>
              .load (n20, 1) (.int .i64) fun i48 =>
              .load (n20, 2) (.bool) fun b49 =>
              .ite (!(i44 == i47 && (i45 == i48 && true) && (b46 == b49 && true)))
              (.done .ret [.c (.ff)])
              (.guard (InK IntKind.i64 (y15.fst + 1)) <|
                .done .normal [.c (.int .i64 (y15.fst + 1))]))
            (.done (.exit 0) [])) [] fun x50 =>
        .call fn_laws_alive [] false [.c (.bool)] fun r51 =>
        .done .ret [.c (.bool (r51.fst))])))

theorem den_laws_FnGLast (a00p : Option PA) (a00l : Nat) (a00c : Nat) (a01 : Int) (a02 : Bool) (a1p : Option PA) (a1l : Nat) (a1c : Nat) : denFn Try.prog Try.f4 [.agg [.sl a00p a00l a00c, .int .i64 a01, .bool a02], .c (.sl a1p a1l a1c)] = M_laws_FnGLast a00p a00l a00c a01 a02 a1p a1l a1c := by kernel_rfl
theorem hc_laws_FnGLast (a00p : Option PA) (a00l : Nat) (a00c : Nat) (a01 : Int) (a02 : Bool) (a1p : Option PA) (a1l : Nat) (a1c : Nat) {h : H} {R : Value → H → Prop} (hw : wp Try.prog (M_laws_FnGLast a00p a00l a00c a01 a02 a1p a1l a1c) (Ret R) h) : HC Try.prog fn_laws_FnGLast (List.map AV.val [.agg [.sl a00p a00l a00c, .int .i64 a01, .bool a02], .c (.sl a1p a1l a1c)]).toArray h R :=
  den_calls hmix Try.func4 (of_decide_eq_true rfl) (by rw [den_laws_FnGLast]; exact hw)


theorem setsF_get (o : List Int) : ∀ (l xs : List IV) (i : Nat) (x : IV), xs[i]? = some x → (setsF o l xs)[i]? = some (fnd (ltO o) (setsR o l (xs.take i)) x)
  | l, [], i, x, h => by simp at h
  | l, y :: xs, 0, x, h => by simp at h; subst h; rfl
  | l, y :: xs, i + 1, x, h => setsF_get o (put (ltO o) l y) xs i x (by simpa using h)
section
variable {h : H}
set_option maxHeartbeats 1000000 in
theorem c_FnGLoadsAny {hI : H} {o : List Int} {op : Option PA} {on oc : Nat} (hr : Rdr (BaC hI) (op, on, oc) LN o) {d : Int} {nl : Bool} {xs : List IV} {sp : Option PA} {n cap : Nat} (hx : Rdr (BaC hI) (sp, n, cap) LT xs) {G : PA → Prop} (hG : Star [BaC hI] h G) :
    HT Try.prog fn_laws_FnGLoadsAny [.agg [.sl op on oc, .int .i64 d, .bool nl], .c (.sl sp n cap)] false [.c .bool] h fun r h' => ∃ post, (r = (true, ()) ∧ post = [BaC hI]) ∧ St h G post h' := by
  apply hc_laws_FnGLoadsAny
  unfold M_laws_FnGLoadsAny
  have hn : n = xs.length := hx.1
  have htl := treeO_len o xs
  have hsl := setsF_len o [] xs
  have hno : on = o.length := hr.1
  refine st_alloc (St.start hG) fun n0 _ S => ?_
  refine w_mid' none (fun (y : SV [.c .bool]) h' => (y = (true, ()) ∨ y = (false, ()) ∧ on ≤ 2147483647 ∧ n ≤ 2147483647) ∧ St h G [Ow (n0, 0) (List.map Cell.val [.sl op on oc, .int .i64 d, .bool nl]) 0, BaC hI] h') ?_ ?_
  · refine ld_sl S op on oc rfl (ld_int S rfl (ld_bool S rfl ?_))
    refine st_callT S [] (fun G hG => c_zzFits1 hG) ?_
    rintro _ _ _ ⟨rfl, rfl⟩ S
    dsimp only [List.cons_append, List.nil_append] at S
    by_cases hbo : on > 2147483647
    · exact w_true (by rw [decide_eq_false (by (first | omega | ((try dsimp only [Sh.T, Sh1.T]); omega)))]; rfl) (md_n rfl ⟨.inl rfl, S.only [.ow (n0, 0), .ck (BaC hI)]⟩)
    refine w_false (by rw [decide_eq_true (by (first | omega | ((try dsimp only [Sh.T, Sh1.T]); omega)))]; rfl) ?_
    by_cases hb0 : n > 2147483647
    · exact md_n (x := (true, ())) (by rw [decide_eq_true (by omega)]; rfl) ⟨.inl rfl, S.only [.ow (n0, 0), .ck (BaC hI)]⟩
    exact md_n (x := (false, ())) (by rw [decide_eq_false (by omega)]; rfl) ⟨.inr ⟨rfl, by omega, by omega⟩, S.only [.ow (n0, 0), .ck (BaC hI)]⟩
  rintro _ _ ⟨rfl | ⟨rfl, hz0, hz1⟩, S⟩
  · exact w_true rfl (rt_1 rfl ⟨_, ⟨rfl, rfl⟩, S.only [.ck (BaC hI)]⟩)
  refine w_false rfl ?_
  refine ld_sl S op on oc rfl (ld_int S rfl (ld_bool S rfl ?_))
  refine st_callT S [] (fun G hG => c_fits hG) ?_
  rintro _ _ _ ⟨rfl, rfl⟩ S
  dsimp only [List.cons_append, List.nil_append] at S
  by_cases hf : d = 0 ∨ 2 ≤ d ∧ d ≤ 128
  case neg =>
    refine w_true (by rw [decide_eq_false hf]; rfl) ?_
    refine st_callT S [] (fun G hG => c_alive hG) ?_
    rintro _ _ _ ⟨rfl, rfl⟩ S
    dsimp only [List.cons_append, List.nil_append] at S
    exact rt_1 rfl ⟨_, ⟨rfl, rfl⟩, S.only [.ck (BaC hI)]⟩
  refine w_false (by rw [decide_eq_true hf]; rfl) ?_
  (refine ld_sl S op on oc rfl (ld_int S rfl (ld_bool S rfl ?_)))
  refine st_callT S [.ck (BaC hI)] (fun G hG => c_GLoadI hr (by omega) (by omega) hx (by omega) hG) ?_
  rintro _ _ _ ⟨s1, t1, rfl, hs1, ht1, rfl⟩ S
  dsimp only [List.cons_append, List.nil_append] at S
  have S := S.ats [.ow (n0, 0), .ck (BaC hI)]
  (refine ld_sl S op on oc rfl (ld_int S rfl (ld_bool S rfl ?_)))
  refine st_callT S [.ck (BaC hI)] (fun G hG => c_GSetI hr (by omega) (by omega) hx (by omega) hG) ?_
  rintro _ _ _ ⟨s2, t2, rfl, hs2, ht2, rfl⟩ S
  dsimp only [List.cons_append, List.nil_append] at S
  refine w_bnd ?_
  refine st_eqF S hs1 hs2 (by omega) fun _ S => ?_
  refine w_true rfl ?_
  refine st_eqT S (.sl t1) (.sl t2) ht1.rdr ht2.rdr (by omega) fun _ S => ?_
  refine w_true (by simp) ?_
  (refine st_callT S [] (fun G hG => c_alive hG) ?_; rintro _ _ _ ⟨rfl, rfl⟩ S; dsimp only [List.cons_append, List.nil_append] at S)
  exact bd_n rfl (rt_1 rfl ⟨_, ⟨rfl, rfl⟩, S.only [.ck (BaC hI)]⟩)
set_option maxHeartbeats 2000000 in
theorem c_FnGLast {hI : H} {o : List Int} {op : Option PA} {on oc : Nat} (hr : Rdr (BaC hI) (op, on, oc) LN o) {d : Int} {nl : Bool} {xs : List IV} {sp : Option PA} {n cap : Nat} (hx : Rdr (BaC hI) (sp, n, cap) LT xs) {G : PA → Prop} (hG : Star [BaC hI] h G) :
    HT Try.prog fn_laws_FnGLast [.agg [.sl op on oc, .int .i64 d, .bool nl], .c (.sl sp n cap)] false [.c .bool] h fun r h' => ∃ post, (r = (true, ()) ∧ post = [BaC hI]) ∧ St h G post h' := by
  apply hc_laws_FnGLast
  unfold M_laws_FnGLast
  have hn : n = xs.length := hx.1
  have hcap : n ≤ cap := hx.2.1
  have htl := treeO_len o xs
  have hsl := setsF_len o [] xs
  have hno : on = o.length := hr.1
  refine st_alloc (St.start hG) fun n0 _ S => ?_
  refine w_mid' none (fun (y : SV [.c .bool]) h' => (y = (true, ()) ∨ y = (false, ()) ∧ on ≤ 2147483647 ∧ n ≤ 2147483647) ∧ St h G [Ow (n0, 0) (List.map Cell.val [.sl op on oc, .int .i64 d, .bool nl]) 0, BaC hI] h') ?_ ?_
  · refine ld_sl S op on oc rfl (ld_int S rfl (ld_bool S rfl ?_))
    refine st_callT S [] (fun G hG => c_zzFits1 hG) ?_
    rintro _ _ _ ⟨rfl, rfl⟩ S
    dsimp only [List.cons_append, List.nil_append] at S
    by_cases hbo : on > 2147483647
    · exact w_true (by rw [decide_eq_false (by (first | omega | ((try dsimp only [Sh.T, Sh1.T]); omega)))]; rfl) (md_n rfl ⟨.inl rfl, S.only [.ow (n0, 0), .ck (BaC hI)]⟩)
    refine w_false (by rw [decide_eq_true (by (first | omega | ((try dsimp only [Sh.T, Sh1.T]); omega)))]; rfl) ?_
    by_cases hb0 : n > 2147483647
    · exact md_n (x := (true, ())) (by rw [decide_eq_true (by omega)]; rfl) ⟨.inl rfl, S.only [.ow (n0, 0), .ck (BaC hI)]⟩
    exact md_n (x := (false, ())) (by rw [decide_eq_false (by omega)]; rfl) ⟨.inr ⟨rfl, by omega, by omega⟩, S.only [.ow (n0, 0), .ck (BaC hI)]⟩
  rintro _ _ ⟨rfl | ⟨rfl, hz0, hz1⟩, S⟩
  · exact w_true rfl (rt_1 rfl ⟨_, ⟨rfl, rfl⟩, S.only [.ck (BaC hI)]⟩)
  refine w_false rfl ?_
  refine ld_sl S op on oc rfl (ld_int S rfl (ld_bool S rfl ?_))
  refine st_callT S [] (fun G hG => c_fits hG) ?_
  rintro _ _ _ ⟨rfl, rfl⟩ S
  dsimp only [List.cons_append, List.nil_append] at S
  by_cases hf : d = 0 ∨ 2 ≤ d ∧ d ≤ 128
  case neg =>
    refine w_true (by rw [decide_eq_false hf]; rfl) ?_
    refine st_callT S [] (fun G hG => c_alive hG) ?_
    rintro _ _ _ ⟨rfl, rfl⟩ S
    dsimp only [List.cons_append, List.nil_append] at S
    exact rt_1 rfl ⟨_, ⟨rfl, rfl⟩, S.only [.ck (BaC hI)]⟩
  refine w_false (by rw [decide_eq_true hf]; rfl) ?_
  (refine ld_sl S op on oc rfl (ld_int S rfl (ld_bool S rfl ?_)))
  refine st_callT S [.ck (BaC hI)] (fun G hG => c_GSetI hr (by omega) (by omega) hx (by omega) hG) ?_
  rintro _ _ _ ⟨⟨fp, fn, fc⟩, t1, rfl, hs1, ht1, rfl⟩ S
  dsimp only [List.cons_append, List.nil_append] at S
  have hfn : fn = xs.length := by have := hs1.1; rw [hsl] at this; exact this
  refine w_false (by rw [hfn, hn]; simp) ?_
  have S := S.only [.ow (n0, 0), .ck (BaC hI), .sl (fp, fn, fc)]
  refine w_mid' (some 0) (fun _ h' => St h G [BaC hI] h') ?_ ?_
  · refine w_lp (fun r y h' => ∃ i : Nat, y = ((i : Int), ()) ∧ i + r = n ∧ St h G [Ow (n0, 0) (List.map Cell.val [.sl op on oc, .int .i64 d, .bool nl]) 0, BaC hI, SlC (fp, fn, fc) LF.sz (LF.flat (setsF o [] xs))] h') n rfl ⟨0, rfl, by omega, S⟩ ?_
    clear S
    rintro r _ _ ⟨i, rfl, hi, S⟩
    by_cases hlt : i < n
    · obtain ⟨p, hp, hro⟩ := hx.ptr (by omega)
      dsimp only at hp
      subst hp
      obtain ⟨q, hq, hfr⟩ := hs1.rdr.ptr (by omega)
      dsimp only at hq
      subst hq
      have hxi := List.getElem?_eq_getElem (show i < xs.length by omega)
      have hfi := setsF_get o [] xs i _ hxi
      rw [setsR_tree, fnd_tree] at hfi
      have hpart := hx.part 0 i (by omega)
      rw [List.drop_zero] at hpart
      refine w_true (lt_t (by (first | omega | ((try dsimp only [Sh.T, Sh1.T]); omega)))) (w_nonnil (w_guard ⟨by (first | omega | ((try dsimp only [Sh.T, Sh1.T]); omega)), by (first | omega | ((try dsimp only [Sh.T, Sh1.T]); omega))⟩ ?_))
      simp only [Int.toNat_natCast, toNat_succ, toNat_succ2, toNat_pred]
      refine w_item (S.rdr hro) hxi ?_
      refine st_alloc S fun n19 _ S => ?_
      refine st_store S (lt_ble rfl) fun _ S => ?_
      refine st_store S (lt_ble rfl) fun _ S => ?_
      refine st_alloc S fun n20 _ S => ?_
      refine st_store S (lt_ble rfl) fun _ S => ?_
      refine st_store S (lt_ble rfl) fun _ S => ?_
      refine st_store S (lt_ble rfl) fun _ S => ?_
      have S := S.re (n20, 0) (LF.flat [lastE o (xs.take 0) xs[i]]) 0 rfl rfl rfl
      have S := (S.at (.ow (n19, 0))).re (n19, 0) (LT.flat [xs[i]]) 0 rfl rfl rfl
      refine w_guard ⟨by (first | omega | ((try dsimp only [Sh.T, Sh1.T]); omega)), by (first | omega | ((try dsimp only [Sh.T, Sh1.T]); omega))⟩ ?_
      refine w_mid' (some 2) (fun _ h' => St h G [Ow (n20, 0) (LF.flat [lastE o (xs.take i) xs[i]]) 0, Ow (n0, 0) (List.map Cell.val [.sl op on oc, .int .i64 d, .bool nl]) 0, BaC hI, SlC (some q, fn, fc) LF.sz (LF.flat (setsF o [] xs))] h') ?_ ?_
      · refine w_lp (fun r y h' => ∃ j : Nat, y = ((j : Int), ()) ∧ j + r = i ∧ St h G [Ow (n20, 0) (LF.flat [lastE o (xs.take j) xs[i]]) 0, Ow (n19, 0) (LT.flat [xs[i]]) 0, Ow (n0, 0) (List.map Cell.val [.sl op on oc, .int .i64 d, .bool nl]) 0, BaC hI, SlC (some q, fn, fc) LF.sz (LF.flat (setsF o [] xs))] h') i rfl ⟨0, rfl, by omega, S.ats [.ow (n20, 0), .ow (n19, 0), .ow (n0, 0), .ck (BaC hI), .sl (some q, fn, fc)]⟩ ?_
        clear S
        rintro r _ _ ⟨j, rfl, hj, S⟩
        by_cases hjl : j < i
        · obtain ⟨p2, hp2, hrp⟩ := hpart.ptr (by rw [List.length_take]; omega)
          dsimp only at hp2
          have e0 : slBase (some p) cap 0 LT.sz = slBase (some p) cap 0 2 := rfl
          rw [e0] at hp2
          rw [hp2]
          have hxj : (xs.take i)[j]? = some xs[j] := by rw [List.getElem?_take_of_lt hjl, List.getElem?_eq_getElem (by omega)]
          refine w_true (lt_t (by (first | omega | ((try dsimp only [Sh.T, Sh1.T]); omega)))) (w_nonnil (w_guard ⟨by (first | omega | ((try dsimp only [Sh.T, Sh1.T]); omega)), by (first | omega | ((try dsimp only [Sh.T, Sh1.T]); omega))⟩ ?_))
          simp only [Int.toNat_natCast, toNat_succ, toNat_succ2, toNat_pred]
          refine w_item (S.rdr hrp) hxj ?_
          refine st_alloc S fun n25 _ S => ?_
          refine st_store S (lt_ble rfl) fun _ S => ?_
          refine st_store S (lt_ble rfl) fun _ S => ?_
          have S := S.re (n25, 0) (LT.flat [xs[j]]) 0 rfl rfl rfl
          refine w_mid' none (fun (y : SV [.c .bool]) h' => y = ((!ltO o xs[i] xs[j] && !ltO o xs[j] xs[i]), ()) ∧ St h G [Ow (n25, 0) (LT.flat [xs[j]]) 0, Ow (n20, 0) (LF.flat [lastE o (xs.take j) xs[i]]) 0, Ow (n19, 0) (LT.flat [xs[i]]) 0, Ow (n0, 0) (List.map Cell.val [.sl op on oc, .int .i64 d, .bool nl]) 0, BaC hI, SlC (some q, fn, fc) LF.sz (LF.flat (setsF o [] xs))] h') ?_ ?_
          · refine ld_sl S op on oc rfl (ld_int S rfl (ld_int S rfl (ld_int S rfl (ld_int S rfl ?_))))
            refine st_callT S [.ck (BaC hI)] (fun G hG => c_Before (a := xs[i]) (b := xs[j]) hr (by omega) hG) ?_
            rintro _ _ _ ⟨rfl, rfl⟩ S
            dsimp only [List.cons_append, List.nil_append] at S
            cases h1 : ltO o xs[i] xs[j] with
            | true => exact w_false rfl (md_n rfl ⟨rfl, S.ats [.ow (n25, 0), .ow (n20, 0), .ow (n19, 0), .ow (n0, 0), .ck (BaC hI), .sl (some q, fn, fc)]⟩)
            | false =>
              refine w_true rfl (ld_sl S op on oc rfl (ld_int S rfl (ld_int S rfl (ld_int S rfl (ld_int S rfl ?_)))))
              refine st_callT S [.ck (BaC hI)] (fun G hG => c_Before (a := xs[j]) (b := xs[i]) hr (by omega) hG) ?_
              rintro _ _ _ ⟨rfl, rfl⟩ S
              dsimp only [List.cons_append, List.nil_append] at S
              exact md_n rfl ⟨rfl, S.ats [.ow (n25, 0), .ow (n20, 0), .ow (n19, 0), .ow (n0, 0), .ck (BaC hI), .sl (some q, fn, fc)]⟩
          clear S
          rintro _ _ ⟨rfl, S⟩
          refine w_mid' none (fun (_ : SV []) h' => St h G [Ow (n20, 0) (LF.flat [lastE o (xs.take (j + 1)) xs[i]]) 0, Ow (n19, 0) (LT.flat [xs[i]]) 0, Ow (n0, 0) (List.map Cell.val [.sl op on oc, .int .i64 d, .bool nl]) 0, BaC hI, SlC (some q, fn, fc) LF.sz (LF.flat (setsF o [] xs))] h') ?_ ?_
          · rw [take_snoc (show j < xs.length by omega), lastE_snoc]
            by_cases he : (!ltO o xs[i] xs[j] && !ltO o xs[j] xs[i]) = true
            · rw [if_pos he]
              refine w_true he (ld_int S rfl (ld_int S rfl ?_))
              refine st_store S (lt_ble rfl) fun _ S => ?_
              refine st_store S (lt_ble rfl) fun _ S => ?_
              refine st_store S (lt_ble rfl) fun _ S => ?_
              have S := (S.at (.ow (n20, 0))).re (n20, 0) (LF.flat [some xs[j]]) 0 rfl rfl rfl
              exact md_n rfl (S.only [.ow (n20, 0), .ow (n19, 0), .ow (n0, 0), .ck (BaC hI), .sl (some q, fn, fc)])
            · rw [if_neg he]
              exact w_false (by simpa using he) (md_n rfl (S.only [.ow (n20, 0), .ow (n19, 0), .ow (n0, 0), .ck (BaC hI), .sl (some q, fn, fc)]))
          clear S
          rintro _ _ S
          refine w_guard (inK64 (by (first | omega | ((try dsimp only [Sh.T, Sh1.T]); omega))) (by (first | omega | ((try dsimp only [Sh.T, Sh1.T]); omega)))) ?_
          exact ln_n rfl (r - 1) ⟨j + 1, rfl, by omega, S⟩ (by omega)
        · obtain rfl : j = i := by omega
          exact w_false (lt_f (by (first | omega | ((try dsimp only [Sh.T, Sh1.T]); omega)))) (ln_e (md_e rfl (S.only [.ow (n20, 0), .ow (n0, 0), .ck (BaC hI), .sl (some q, fn, fc)])))
      clear S
      rintro _ _ S
      refine w_nonnil (w_guard ⟨by (first | omega | ((try dsimp only [Sh.T, Sh1.T]); omega)), by (first | omega | ((try dsimp only [Sh.T, Sh1.T]); omega))⟩ ?_)
      refine w_fnd (S.rdr hfr) hfi ?_
      refine ld_int S rfl (ld_int S rfl (ld_bool S rfl ?_))
      refine w_false (by simp) ?_
      refine w_guard (inK64 (by (first | omega | ((try dsimp only [Sh.T, Sh1.T]); omega))) (by (first | omega | ((try dsimp only [Sh.T, Sh1.T]); omega)))) ?_
      exact ln_n rfl (r - 1) ⟨i + 1, rfl, by omega, S.only [.ow (n0, 0), .ck (BaC hI), .sl (some q, fn, fc)]⟩ (by omega)
    · exact w_false (lt_f (by (first | omega | ((try dsimp only [Sh.T, Sh1.T]); omega)))) (ln_e (md_e rfl (S.only [.ck (BaC hI)])))
  clear S
  rintro _ _ S
  (refine st_callT S [] (fun G hG => c_alive hG) ?_; rintro _ _ _ ⟨rfl, rfl⟩ S; dsimp only [List.cons_append, List.nil_append] at S)
  exact rt_1 rfl ⟨_, ⟨rfl, rfl⟩, S⟩
end
end Go.Proofs.Ythcgddidkoejbaa
