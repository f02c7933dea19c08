/-
  The laws FnExactBLen, FnExactBMax, FnExactBSetHint, FnExactBClear. Conditions: none.
-/
import Derived.Test.YtlhbdmjeomffhaaZis
import Derived.Test.YtlhbdmjeomffhaaYsq
set_option linter.unusedVariables false
set_option linter.unusedSimpArgs false
set_option linter.unusedSectionVars false
set_option maxRecDepth 100000
namespace Go.Proofs.Ytlhbdmjeomffhaa
open Go
def M_laws_bLen (a00p : Option PA) (a00l : Nat) (a00c : Nat) (a01 : Int) (a02 : Bool) (a1p : Option PA) (a1l : Nat) (a1c : Nat) : M :=
  .alloc ty_impl_Make [.sl (a00p) (a00l) (a00c), .int .i64 (a01), .bool (a02)] fun n0 =>
  .load (n0, 0) (.sl) fun s1 =>
  .load (n0, 1) (.int .i64) fun i2 =>
  .load (n0, 2) (.bool) fun b3 =>
  .call fn_impl_BLen [.agg [.sl (s1.fst) (s1.snd.fst) (s1.snd.snd), .int .i64 (i2), .bool (b3)], .c (.sl (a1p) (a1l) (a1c))] false [.c (.int .i64)] fun r4 =>
  .load (n0, 0) (.sl) fun s5 =>
  .call fn_spec_Tree [.c (.sl (s5.fst) (s5.snd.fst) (s5.snd.snd)), .c (.sl (a1p) (a1l) (a1c))] false [.c (.sl)] fun r6 =>
  .done .ret [.c (.bool (r4.fst == (↑r6.fst.snd.fst : Int)))]
theorem den_laws_bLen (a00p : Option PA) (a00l : Nat) (a00c : Nat) (a01 : Int) (a02 : Bool) (a1p : Option PA) (a1l : Nat) (a1c : Nat) : denFn Try.prog Try.f14 [.agg [.sl a00p a00l a00c, .int .i64 a01, .bool a02], .c (.sl a1p a1l a1c)] = M_laws_bLen a00p a00l a00c a01 a02 a1p a1l a1c := by kernel_rfl
theorem hc_laws_bLen (a00p : Option PA) (a00l : Nat) (a00c : Nat) (a01 : Int) (a02 : Bool) (a1p : Option PA) (a1l : Nat) (a1c : Nat) {h : H} {R : Value → H → Prop} (hw : wp Try.prog (M_laws_bLen a00p a00l a00c a01 a02 a1p a1l a1c) (Ret R) h) : HC Try.prog fn_laws_bLen (List.map AV.val [.agg [.sl a00p a00l a00c, .int .i64 a01, .bool a02], .c (.sl a1p a1l a1c)]).toArray h R :=
  den_calls hmix Try.func14 (of_decide_eq_true rfl) (by rw [den_laws_bLen]; exact hw)
def M_laws_bMax (a00p : Option PA) (a00l : Nat) (a00c : Nat) (a01 : Int) (a02 : Bool) (a1p : Option PA) (a1l : Nat) (a1c : Nat) : M :=
  .alloc ty_impl_Make [.sl (a00p) (a00l) (a00c), .int .i64 (a01), .bool (a02)] fun n0 =>
  .load (n0, 0) (.sl) fun s1 =>
  .load (n0, 1) (.int .i64) fun i2 =>
  .load (n0, 2) (.bool) fun b3 =>
  .call fn_impl_BMax [.agg [.sl (s1.fst) (s1.snd.fst) (s1.snd.snd), .int .i64 (i2), .bool (b3)], .c (.sl (a1p) (a1l) (a1c))] false [.agg [.int .i64, .int .i64, .bool]] fun r4 =>
  .alloc ty_impl_Found [.int .i64 (0), .int .i64 (0), .ff] fun n5 =>
  .store (n5, 0) (.int .i64 (r4.fst.fst)) <|
  .store (n5, 1) (.int .i64 (r4.fst.snd.fst)) <|
  .store (n5, 2) (.bool (r4.fst.snd.snd.fst)) <|
  .load (n0, 0) (.sl) fun s6 =>
  .load (n0, 1) (.int .i64) fun i7 =>
  .load (n0, 2) (.bool) fun b8 =>
  .call fn_spec_GMax [.agg [.sl (s6.fst) (s6.snd.fst) (s6.snd.snd), .int .i64 (i7), .bool (b8)], .c (.sl (a1p) (a1l) (a1c))] false [.agg [.int .i64, .int .i64, .bool]] fun r9 =>
  .alloc ty_impl_Found [.int .i64 (0), .int .i64 (0), .ff] fun n10 =>
  .store (n10, 0) (.int .i64 (r9.fst.fst)) <|
  .store (n10, 1) (.int .i64 (r9.fst.snd.fst)) <|
  .store (n10, 2) (.bool (r9.fst.snd.snd.fst)) <|
  .load (n5, 0) (.int .i64) fun i11 =>
  .load (n5, 1) (.int .i64) fun i12 =>
  .load (n5, 2) (.bool) fun b13 =>
  .load (n10, 0) (.int .i64) fun i14 =>
  .load (n10, 1) (.int .i64) fun i15 =>
  .load (n10, 2) (.bool) fun b16 =>
  .done .ret [.c (.bool (i11 == i14 && (i12 == i15 && true) && (b13 == b16 && true)))]
theorem den_laws_bMax (a00p : Option PA) (a00l : Nat) (a00c : Nat) (a01 : Int) (a02 : Bool) (a1p : Option PA) (a1l : Nat) (a1c : Nat) : denFn Try.prog Try.f18 [.agg [.sl a00p a00l a00c, .int .i64 a01, .bool a02], .c (.sl a1p a1l a1c)] = M_laws_bMax a00p a00l a00c a01 a02 a1p a1l a1c := by kernel_rfl
theorem hc_laws_bMax (a00p : Option PA) (a00l : Nat) (a00c : Nat) (a01 : Int) (a02 : Bool) (a1p : Option PA) (a1l : Nat) (a1c : Nat) {h : H} {R : Value → H → Prop} (hw : wp Try.prog (M_laws_bMax a00p a00l a00c a01 a02 a1p a1l a1c) (Ret R) h) : HC Try.prog fn_laws_bMax (List.map AV.val [.agg [.sl a00p a00l a00c, .int .i64 a01, .bool a02], .c (.sl a1p a1l a1c)]).toArray h R :=
  den_calls hmix Try.func18 (of_decide_eq_true rfl) (by rw [den_laws_bMax]; exact hw)
def M_laws_bSetHint (a00p : Option PA) (a00l : Nat) (a00c : Nat) (a01 : Int) (a02 : Bool) (a1p : Option PA) (a1l : Nat) (a1c : Nat) : M :=
  .alloc ty_impl_Make [.sl (a00p) (a00l) (a00c), .int .i64 (a01), .bool (a02)] fun n0 =>
  .load (n0, 0) (.sl) fun s1 =>
  .load (n0, 1) (.int .i64) fun i2 =>
  .load (n0, 2) (.bool) fun b3 =>
  .call fn_impl_BSetHint [.agg [.sl (s1.fst) (s1.snd.fst) (s1.snd.snd), .int .i64 (i2), .bool (b3)], .c (.sl (a1p) (a1l) (a1c))] true [.c (.sl), .c (.sl)] fun r4 =>
  .load (n0, 0) (.sl) fun s5 =>
  .load (n0, 1) (.int .i64) fun i6 =>
  .load (n0, 2) (.bool) fun b7 =>
  .call fn_spec_GSet [.agg [.sl (s5.fst) (s5.snd.fst) (s5.snd.snd), .int .i64 (i6), .bool (b7)], .c (.sl (a1p) (a1l) (a1c))] true [.c (.sl), .c (.sl)] fun r8 =>
  .bind none (.call fn_slices_Equal_impl_Found_impl_Found [.c (.sl (r4.fst.fst) (r4.fst.snd.fst) (r4.fst.snd.snd)), .c (.sl (r8.fst.fst) (r8.fst.snd.fst) (r8.fst.snd.snd))] false [.c (.bool)] fun r9 =>
    .ite (r9.fst)
    (.call fn_slices_Equal_impl_Item_impl_Item [.c (.sl (r4.snd.fst.fst) (r4.snd.fst.snd.fst) (r4.snd.fst.snd.snd)), .c (.sl (r8.snd.fst.fst) (r8.snd.fst.snd.fst) (r8.snd.fst.snd.snd))] false [.c (.bool)] fun r10 =>
      .done .normal [.c (.bool (r10.fst))])
    (.done .normal [.c (.ff)])) [.c (.bool)] fun x11 =>
  .done .ret [.c (.bool (x11.fst))]
theorem den_laws_bSetHint (a00p : Option PA) (a00l : Nat) (a00c : Nat) (a01 : Int) (a02 : Bool) (a1p : Option PA) (a1l : Nat) (a1c : Nat) : denFn Try.prog Try.f25 [.agg [.sl a00p a00l a00c, .int .i64 a01, .bool a02], .c (.sl a1p a1l a1c)] = M_laws_bSetHint a00p a00l a00c a01 a02 a1p a1l a1c := by kernel_rfl
theorem hc_laws_bSetHint (a00p : Option PA) (a00l : Nat) (a00c : Nat) (a01 : Int) (a02 : Bool) (a1p : Option PA) (a1l : Nat) (a1c : Nat) {h : H} {R : Value → H → Prop} (hw : wp Try.prog (M_laws_bSetHint a00p a00l a00c a01 a02 a1p a1l a1c) (Ret R) h) : HC Try.prog fn_laws_bSetHint (List.map AV.val [.agg [.sl a00p a00l a00c, .int .i64 a01, .bool a02], .c (.sl a1p a1l a1c)]).toArray h R :=
  den_calls hmix Try.func25 (of_decide_eq_true rfl) (by rw [den_laws_bSetHint]; exact hw)
def M_laws_bClear (a00p : Option PA) (a00l : Nat) (a00c : Nat) (a01 : Int) (a02 : Bool) (a1p : Option PA) (a1l : Nat) (a1c : Nat) (a2p : Option PA) (a2l : Nat) (a2c : Nat) : M :=
  .alloc ty_impl_Make [.sl (a00p) (a00l) (a00c), .int .i64 (a01), .bool (a02)] fun n0 =>
  .load (n0, 0) (.sl) fun s1 =>
  .load (n0, 1) (.int .i64) fun i2 =>
  .load (n0, 2) (.bool) fun b3 =>
  .call fn_impl_BClear [.agg [.sl (s1.fst) (s1.snd.fst) (s1.snd.snd), .int .i64 (i2), .bool (b3)], .c (.sl (a1p) (a1l) (a1c)), .c (.sl (a2p) (a2l) (a2c))] true [.c (.int .i64), .c (.sl), .c (.sl)] fun r4 =>
  .load (n0, 0) (.sl) fun s5 =>
  .load (n0, 1) (.int .i64) fun i6 =>
  .load (n0, 2) (.bool) fun b7 =>
  .call fn_spec_GClear [.agg [.sl (s5.fst) (s5.snd.fst) (s5.snd.snd), .int .i64 (i6), .bool (b7)], .c (.sl (a1p) (a1l) (a1c)), .c (.sl (a2p) (a2l) (a2c))] true [.c (.int .i64), .c (.sl), .c (.sl)] fun r8 =>
  .bind none (.ite (r4.fst == r8.fst)
    (.call fn_slices_Equal_impl_Found_impl_Found [.c (.sl (r4.snd.fst.fst) (r4.snd.fst.snd.fst) (r4.snd.fst.snd.snd)), .c (.sl (r8.snd.fst.fst) (r8.snd.fst.snd.fst) (r8.snd.fst.snd.snd))] false [.c (.bool)] fun r9 =>
      .ite (r9.fst)
      (.call fn_slices_Equal_impl_Item_impl_Item [.c (.sl (r4.snd.snd.fst.fst) (r4.snd.snd.fst.snd.fst) (r4.snd.snd.fst.snd.snd)), .c (.sl (r8.snd.snd.fst.fst) (r8.snd.snd.fst.snd.fst) (r8.snd.snd.fst.snd.snd))] false [.c (.bool)] fun r10 =>
        .done .normal [.c (.bool (r10.fst))])
      (.done .normal [.c (.ff)]))
    (.done .normal [.c (.ff)])) [.c (.bool)] fun x11 =>
  .done .ret [.c (.bool (x11.fst))]
theorem den_laws_bClear (a00p : Option PA) (a00l : Nat) (a00c : Nat) (a01 : Int) (a02 : Bool) (a1p : Option PA) (a1l : Nat) (a1c : Nat) (a2p : Option PA) (a2l : Nat) (a2c : Nat) : denFn Try.prog Try.f26 [.agg [.sl a00p a00l a00c, .int .i64 a01, .bool a02], .c (.sl a1p a1l a1c), .c (.sl a2p a2l a2c)] = M_laws_bClear a00p a00l a00c a01 a02 a1p a1l a1c a2p a2l a2c := by kernel_rfl
theorem hc_laws_bClear (a00p : Option PA) (a00l : Nat) (a00c : Nat) (a01 : Int) (a02 : Bool) (a1p : Option PA) (a1l : Nat) (a1c : Nat) (a2p : Option PA) (a2l : Nat) (a2c : Nat) {h : H} {R : Value → H → Prop} (hw : wp Try.prog (M_laws_bClear a00p a00l a00c a01 a02 a1p a1l a1c a2p a2l a2c) (Ret R) h) : HC Try.prog fn_laws_bClear (List.map AV.val [.agg [.sl a00p a00l a00c, .int .i64 a01, .bool a02], .c (.sl a1p a1l a1c), .c (.sl a2p a2l a2c)]).toArray h R :=
  den_calls hmix Try.func26 (of_decide_eq_true rfl) (by rw [den_laws_bClear]; exact hw)
def M_laws_FnExactBLen (a00p : Option PA) (a00l : Nat) (a00c : Nat) (a01 : Int) (a02 : Bool) (a1p : Option PA) (a1l : Nat) (a1c : Nat) : M :=
  .alloc ty_impl_Make [.sl (a00p) (a00l) (a00c), .int .i64 (a01), .bool (a02)] fun n0 =>
  .bind none (.load (n0, 0) (.sl) fun s1 =>
    .load (n0, 1) (.int .i64) fun i2 =>
    .load (n0, 2) (.bool) fun b3 =>
    .call fn_laws_zzFits1 [.agg [.sl (s1.fst) (s1.snd.fst) (s1.snd.snd), .int .i64 (i2), .bool (b3)]] false [.c (.bool)] fun r4 =>
    .ite (!r4.fst)
    (.done .normal [.c (.tt)])
    (.done .normal [.c (.bool (decide ((↑a1l : Int) > 2147483647)))])) [.c (.bool)] fun x5 =>
  .ite (x5.fst)
  (.done .ret [.c (.tt)])
  (.bind none (.call fn_laws_exMake [] false [.agg [.sl, .int .i64, .bool]] fun r6 =>
      .call fn_laws_exItems [] false [.c (.sl)] fun r7 =>
      .call fn_laws_bLen [.agg [.sl (r6.fst.fst.fst) (r6.fst.fst.snd.fst) (r6.fst.fst.snd.snd), .int .i64 (r6.fst.snd.fst), .bool (r6.fst.snd.snd.fst)], .c (.sl (r7.fst.fst) (r7.fst.snd.fst) (r7.fst.snd.snd))] false [.c (.bool)] fun r8 =>
      .ite (r8.fst)
      (.load (n0, 1) (.int .i64) fun i9 =>
        .call fn_spec_Fits [.c (.int .i64 (i9))] false [.c (.bool)] fun r10 =>
        .ite (!r10.fst)
        (.done .normal [.c (.tt)])
        (.load (n0, 0) (.sl) fun s11 =>
          .load (n0, 1) (.int .i64) fun i12 =>
          .load (n0, 2) (.bool) fun b13 =>
          .call fn_laws_bLen [.agg [.sl (s11.fst) (s11.snd.fst) (s11.snd.snd), .int .i64 (i12), .bool (b13)], .c (.sl (a1p) (a1l) (a1c))] false [.c (.bool)] fun r14 =>
          .done .normal [.c (.bool (r14.fst))]))
      (.done .normal [.c (.ff)])) [.c (.bool)] fun x15 =>
    .done .ret [.c (.bool (x15.fst))])
theorem den_laws_FnExactBLen (a00p : Option PA) (a00l : Nat) (a00c : Nat) (a01 : Int) (a02 : Bool) (a1p : Option PA) (a1l : Nat) (a1c : Nat) : denFn Try.prog Try.f3 [.agg [.sl a00p a00l a00c, .int .i64 a01, .bool a02], .c (.sl a1p a1l a1c)] = M_laws_FnExactBLen a00p a00l a00c a01 a02 a1p a1l a1c := by kernel_rfl
theorem hc_laws_FnExactBLen (a00p : Option PA) (a00l : Nat) (a00c : Nat) (a01 : Int) (a02 : Bool) (a1p : Option PA) (a1l : Nat) (a1c : Nat) {h : H} {R : Value → H → Prop} (hw : wp Try.prog (M_laws_FnExactBLen a00p a00l a00c a01 a02 a1p a1l a1c) (Ret R) h) : HC Try.prog fn_laws_FnExactBLen (List.map AV.val [.agg [.sl a00p a00l a00c, .int .i64 a01, .bool a02], .c (.sl a1p a1l a1c)]).toArray h R :=
  den_calls hmix Try.func3 (of_decide_eq_true rfl) (by rw [den_laws_FnExactBLen]; exact hw)
def M_laws_FnExactBMax (a00p : Option PA) (a00l : Nat) (a00c : Nat) (a01 : Int) (a02 : Bool) (a1p : Option PA) (a1l : Nat) (a1c : Nat) : M :=
  .alloc ty_impl_Make [.sl (a00p) (a00l) (a00c), .int .i64 (a01), .bool (a02)] fun n0 =>
  .bind none (.load (n0, 0) (.sl) fun s1 =>
    .load (n0, 1) (.int .i64) fun i2 =>
    .load (n0, 2) (.bool) fun b3 =>
    .call fn_laws_zzFits1 [.agg [.sl (s1.fst) (s1.snd.fst) (s1.snd.snd), .int .i64 (i2), .bool (b3)]] false [.c (.bool)] fun r4 =>
    .ite (!r4.fst)
    (.done .normal [.c (.tt)])
    (.done .normal [.c (.bool (decide ((↑a1l : Int) > 2147483647)))])) [.c (.bool)] fun x5 =>
  .ite (x5.fst)
  (.done .ret [.c (.tt)])
  (.bind none (.call fn_laws_exMake [] false [.agg [.sl, .int .i64, .bool]] fun r6 =>
      .call fn_laws_exItems [] false [.c (.sl)] fun r7 =>
      .call fn_laws_bMax [.agg [.sl (r6.fst.fst.fst) (r6.fst.fst.snd.fst) (r6.fst.fst.snd.snd), .int .i64 (r6.fst.snd.fst), .bool (r6.fst.snd.snd.fst)], .c (.sl (r7.fst.fst) (r7.fst.snd.fst) (r7.fst.snd.snd))] false [.c (.bool)] fun r8 =>
      .ite (r8.fst)
      (.load (n0, 1) (.int .i64) fun i9 =>
        .call fn_spec_Fits [.c (.int .i64 (i9))] false [.c (.bool)] fun r10 =>
        .ite (!r10.fst)
        (.done .normal [.c (.tt)])
        (.load (n0, 0) (.sl) fun s11 =>
          .load (n0, 1) (.int .i64) fun i12 =>
          .load (n0, 2) (.bool) fun b13 =>
          .call fn_laws_bMax [.agg [.sl (s11.fst) (s11.snd.fst) (s11.snd.snd), .int .i64 (i12), .bool (b13)], .c (.sl (a1p) (a1l) (a1c))] false [.c (.bool)] fun r14 =>
          .done .normal [.c (.bool (r14.fst))]))
      (.done .normal [.c (.ff)])) [.c (.bool)] fun x15 =>
    .done .ret [.c (.bool (x15.fst))])
theorem den_laws_FnExactBMax (a00p : Option PA) (a00l : Nat) (a00c : Nat) (a01 : Int) (a02 : Bool) (a1p : Option PA) (a1l : Nat) (a1c : Nat) : denFn Try.prog Try.f4 [.agg [.sl a00p a00l a00c, .int .i64 a01, .bool a02], .c (.sl a1p a1l a1c)] = M_laws_FnExactBMax a00p a00l a00c a01 a02 a1p a1l a1c := by kernel_rfl
theorem hc_laws_FnExactBMax (a00p : Option PA) (a00l : Nat) (a00c : Nat) (a01 : Int) (a02 : Bool) (a1p : Option PA) (a1l : Nat) (a1c : Nat) {h : H} {R : Value → H → Prop} (hw : wp Try.prog (M_laws_FnExactBMax a00p a00l a00c a01 a02 a1p a1l a1c) (Ret R) h) : HC Try.prog fn_laws_FnExactBMax (List.map AV.val [.agg [.sl a00p a00l a00c, .int .i64 a01, .bool a02], .c (.sl a1p a1l a1c)]).toArray h R :=
  den_calls hmix Try.func4 (of_decide_eq_true rfl) (by rw [den_laws_FnExactBMax]; exact hw)
def M_laws_FnExactBSetHint (a00p : Option PA) (a00l : Nat) (a00c : Nat) (a01 : Int) (a02 : Bool) (a1p : Option PA) (a1l : Nat) (a1c : Nat) : M :=
  .alloc ty_impl_Make [.sl (a00p) (a00l) (a00c), .int .i64 (a01), .bool (a02)] fun n0 =>
  .bind none (.load (n0, 0) (.sl) fun s1 =>
    .load (n0, 1) (.int .i64) fun i2 =>
    .load (n0, 2) (.bool) fun b3 =>
    .call fn_laws_zzFits1 [.agg [.sl (s1.fst) (s1.snd.fst) (s1.snd.snd), .int .i64 (i2), .bool (b3)]] false [.c (.bool)] fun r4 =>
    .ite (!r4.fst)
    (.done .normal [.c (.tt)])
    (.done .normal [.c (.bool (decide ((↑a1l : Int) > 2147483647)))])) [.c (.bool)] fun x5 =>
  .ite (x5.fst)
  (.done .ret [.c (.tt)])
  (.bind none (.call fn_laws_exMake [] false [.agg [.sl, .int .i64, .bool]] fun r6 =>
      .call fn_laws_exItems [] false [.c (.sl)] fun r7 =>
      .call fn_laws_bSetHint [.agg [.sl (r6.fst.fst.fst) (r6.fst.fst.snd.fst) (r6.fst.fst.snd.snd), .int .i64 (r6.fst.snd.fst), .bool (r6.fst.snd.snd.fst)], .c (.sl (r7.fst.fst) (r7.fst.snd.fst) (r7.fst.snd.snd))] false [.c (.bool)] fun r8 =>
      .ite (r8.fst)
      (.load (n0, 1) (.int .i64) fun i9 =>
        .call fn_spec_Fits [.c (.int .i64 (i9))] false [.c (.bool)] fun r10 =>
        .ite (!r10.fst)
        (.done .normal [.c (.tt)])
        (.load (n0, 0) (.sl) fun s11 =>
          .load (n0, 1) (.int .i64) fun i12 =>
          .load (n0, 2) (.bool) fun b13 =>
          .call fn_laws_bSetHint [.agg [.sl (s11.fst) (s11.snd.fst) (s11.snd.snd), .int .i64 (i12), .bool (b13)], .c (.sl (a1p) (a1l) (a1c))] false [.c (.bool)] fun r14 =>
          .done .normal [.c (.bool (r14.fst))]))
      (.done .normal [.c (.ff)])) [.c (.bool)] fun x15 =>
    .done .ret [.c (.bool (x15.fst))])
theorem den_laws_FnExactBSetHint (a00p : Option PA) (a00l : Nat) (a00c : Nat) (a01 : Int) (a02 : Bool) (a1p : Option PA) (a1l : Nat) (a1c : Nat) : denFn Try.prog Try.f9 [.agg [.sl a00p a00l a00c, .int .i64 a01, .bool a02], .c (.sl a1p a1l a1c)] = M_laws_FnExactBSetHint a00p a00l a00c a01 a02 a1p a1l a1c := by kernel_rfl
theorem hc_laws_FnExactBSetHint (a00p : Option PA) (a00l : Nat) (a00c : Nat) (a01 : Int) (a02 : Bool) (a1p : Option PA) (a1l : Nat) (a1c : Nat) {h : H} {R : Value → H → Prop} (hw : wp Try.prog (M_laws_FnExactBSetHint a00p a00l a00c a01 a02 a1p a1l a1c) (Ret R) h) : HC Try.prog fn_laws_FnExactBSetHint (List.map AV.val [.agg [.sl a00p a00l a00c, .int .i64 a01, .bool a02], .c (.sl a1p a1l a1c)]).toArray h R :=
  den_calls hmix Try.func9 (of_decide_eq_true rfl) (by rw [den_laws_FnExactBSetHint]; exact hw)
def M_laws_FnExactBClear (a00p : Option PA) (a00l : Nat) (a00c : Nat) (a01 : Int) (a02 : Bool) (a1p : Option PA) (a1l : Nat) (a1c : Nat) (a2p : Option PA) (a2l : Nat) (a2c : Nat) : M :=
  .alloc ty_impl_Make [.sl (a00p) (a00l) (a00c), .int .i64 (a01), .bool (a02)] fun n0 =>
  .bind none (.load (n0, 0) (.sl) fun s1 =>
    .load (n0, 1) (.int .i64) fun i2 =>
    .load (n0, 2) (.bool) fun b3 =>
    .call fn_laws_zzFits1 [.agg [.sl (s1.fst) (s1.snd.fst) (s1.snd.snd), .int .i64 (i2), .bool (b3)]] false [.c (.bool)] fun r4 =>
    .ite (!r4.fst)
    (.done .normal [.c (.tt)])
    (.ite (decide ((↑a1l : Int) > 2147483647))
      (.done .normal [.c (.tt)])
      (.done .normal [.c (.bool (decide ((↑a2l : Int) > 2147483647)))]))) [.c (.bool)] fun x5 =>
  .ite (x5.fst)
  (.done .ret [.c (.tt)])
  (.bind none (.call fn_laws_exMake [] false [.agg [.sl, .int .i64, .bool]] fun r6 =>
      .call fn_laws_exItems [] false [.c (.sl)] fun r7 =>
      .call fn_laws_exKeys [] false [.c (.sl)] fun r8 =>
      .call fn_laws_bClear [.agg [.sl (r6.fst.fst.fst) (r6.fst.fst.snd.fst) (r6.fst.fst.snd.snd), .int .i64 (r6.fst.snd.fst), .bool (r6.fst.snd.snd.fst)], .c (.sl (r7.fst.fst) (r7.fst.snd.fst) (r7.fst.snd.snd)), .c (.sl (r8.fst.fst) (r8.fst.snd.fst) (r8.fst.snd.snd))] false [.c (.bool)] fun r9 =>
      .ite (r9.fst)
      (.load (n0, 1) (.int .i64) fun i10 =>
        .call fn_spec_Fits [.c (.int .i64 (i10))] false [.c (.bool)] fun r11 =>
        .ite (!r11.fst)
        (.done .normal [.c (.tt)])
        (.load (n0, 0) (.sl) fun s12 =>
          .load (n0, 1) (.int .i64) fun i13 =>
          .load (n0, 2) (.bool) fun b14 =>
          .call fn_laws_bClear [.agg [.sl (s12.fst) (s12.snd.fst) (s12.snd.snd), .int .i64 (i13), .bool (b14)], .c (.sl (a1p) (a1l) (a1c)), .c (.sl (a2p) (a2l) (a2c))] false [.c (.bool)] fun r15 =>
          .done .normal [.c (.bool (r15.fst))]))
      (.done .normal [.c (.ff)])) [.c (.bool)] fun x16 =>
    .done .ret [.c (.bool (x16.fst))])
theorem den_laws_FnExactBClear (a00p : Option PA) (a00l : Nat) (a00c : Nat) (a01 : Int) (a02 : Bool) (a1p : Option PA) (a1l : Nat) (a1c : Nat) (a2p : Option PA) (a2l : Nat) (a2c : Nat) : denFn Try.prog Try.f10 [.agg [.sl a00p a00l a00c, .int .i64 a01, .bool a02], .c (.sl a1p a1l a1c), .c (.sl a2p a2l a2c)] = M_laws_FnExactBClear a00p a00l a00c a01 a02 a1p a1l a1c a2p a2l a2c := by kernel_rfl
theorem hc_laws_FnExactBClear (a00p : Option PA) (a00l : Nat) (a00c : Nat) (a01 : Int) (a02 : Bool) (a1p : Option PA) (a1l : Nat) (a1c : Nat) (a2p : Option PA) (a2l : Nat) (a2c : Nat) {h : H} {R : Value → H → Prop} (hw : wp Try.prog (M_laws_FnExactBClear a00p a00l a00c a01 a02 a1p a1l a1c a2p a2l a2c) (Ret R) h) : HC Try.prog fn_laws_FnExactBClear (List.map AV.val [.agg [.sl a00p a00l a00c, .int .i64 a01, .bool a02], .c (.sl a1p a1l a1c), .c (.sl a2p a2l a2c)]).toArray h R :=
  den_calls hmix Try.func10 (of_decide_eq_true rfl) (by rw [den_laws_FnExactBClear]; exact hw)
section
variable {h : H}
theorem c_bLen {c : Ck} {o : List Int} {op : Option PA} {on oc : Nat} (hr : Rdr c (op, on, oc) LN o) (hl : o.length ≤ 2147483647) {d : Int} {nl : Bool} (hd : d ≤ 128) {xs : List IV} {sp : Option PA} {n cap : Nat} (hx : Rdr c (sp, n, cap) LT xs) (hxl : xs.length ≤ 2147483647) {G : PA → Prop} (hG : Star [c] h G) :
    HT Try.prog fn_laws_bLen [.agg [.sl op on oc, .int .i64 d, .bool nl], .c (.sl sp n cap)] false [.c .bool] h fun r h' => ∃ post, (r = (true, ()) ∧ post = [c]) ∧ St h G post h' := by
  apply hc_laws_bLen
  unfold M_laws_bLen
  have htl := treeO_len o xs
  refine st_alloc (St.start hG) fun n0 _ S => ?_
  (refine ld_sl S op on oc rfl (ld_int S rfl (ld_bool S rfl ?_)))
  refine st_callT S [.ck c] (fun G hG => c_BLenI hr hl hd hx hxl hG) ?_
  rintro _ _ _ ⟨rfl, rfl⟩ S
  dsimp only [List.cons_append, List.nil_append] at S
  refine ld_sl S op on oc rfl ?_
  refine st_callT S [.ck c] (fun G hG => c_Tree hr hl hx (by omega) hG) ?_
  rintro _ _ _ ⟨⟨tp, tn, tc⟩, rfl, hs, rfl⟩ S
  dsimp only [List.cons_append, List.nil_append] at S
  have htn : tn = (treeO o xs).length := hs.1
  refine rt_1 rfl ⟨_, ⟨?_, rfl⟩, S.only [.ck c]⟩
  rw [htn]; simp
theorem c_bMax {c : Ck} {o : List Int} {op : Option PA} {on oc : Nat} (hr : Rdr c (op, on, oc) LN o) (hl : o.length ≤ 2147483647) {d : Int} {nl : Bool} (hd : d ≤ 128) {xs : List IV} {sp : Option PA} {n cap : Nat} (hx : Rdr c (sp, n, cap) LT xs) (hxl : xs.length ≤ 2147483647) {G : PA → Prop} (hG : Star [c] h G) :
    HT Try.prog fn_laws_bMax [.agg [.sl op on oc, .int .i64 d, .bool nl], .c (.sl sp n cap)] false [.c .bool] h fun r h' => ∃ post, (r = (true, ()) ∧ post = [c]) ∧ St h G post h' := by
  apply hc_laws_bMax
  unfold M_laws_bMax
  refine st_alloc (St.start hG) fun n0 _ S => ?_
  (refine ld_sl S op on oc rfl (ld_int S rfl (ld_bool S rfl ?_)))
  refine st_callT S [.ck c] (fun G hG => c_BMaxI hr hl hd hx hxl hG) ?_
  rintro _ _ _ ⟨rfl, rfl⟩ S
  dsimp only [List.cons_append, List.nil_append] at S
  repeat (first | refine w_nonnil ?_ | refine ld_int S rfl ?_ | refine ld_some S rfl ?_ | refine ld_ptr S _ rfl ?_ | refine ld_sls S rfl ?_ | refine ld_nil S rfl ?_ | refine ld_bool S rfl ?_ | refine st_store S (lt_ble rfl) fun _ S => ?_ | refine st_alloc S fun _ _ S => ?_ | refine st_held S rfl ?_ | refine w_guard (by (first | exact inK64 (by omega) (by omega) | omega | (constructor <;> omega) | ((try dsimp only [Sh.T, Sh1.T]); first | exact inK64 (by omega) (by omega) | omega | exact ⟨by decide, inK64 (by omega) (by omega)⟩ | trivial))) ?_ | refine bd_n rfl ?_ | refine bd_e rfl ?_ | refine bd_r ?_ | refine bd_p ?_ | refine ln_r ?_ | refine ln_e ?_ | refine w_true (b := true) rfl ?_ | refine w_false (b := false) rfl ?_ | refine w_item (S.rdr hrd) (by assumption) ?_ | refine h_item (S.rdr hrd) (by assumption) ?_ | refine w_num (S.rdr hro) (by assumption) ?_ | refine ld_sln S rfl ?_ | refine ld_sl S _ _ _ rfl ?_)
  refine st_callT S [.ck c] (fun G hG => c_GMax hr hl hx (by omega) hG) ?_
  rintro _ _ _ ⟨rfl, rfl⟩ S
  dsimp only [List.cons_append, List.nil_append] at S
  repeat (first | refine w_nonnil ?_ | refine ld_int S rfl ?_ | refine ld_some S rfl ?_ | refine ld_ptr S _ rfl ?_ | refine ld_sls S rfl ?_ | refine ld_nil S rfl ?_ | refine ld_bool S rfl ?_ | refine st_store S (lt_ble rfl) fun _ S => ?_ | refine st_alloc S fun _ _ S => ?_ | refine st_held S rfl ?_ | refine w_guard (by (first | exact inK64 (by omega) (by omega) | omega | (constructor <;> omega) | ((try dsimp only [Sh.T, Sh1.T]); first | exact inK64 (by omega) (by omega) | omega | exact ⟨by decide, inK64 (by omega) (by omega)⟩ | trivial))) ?_ | refine bd_n rfl ?_ | refine bd_e rfl ?_ | refine bd_r ?_ | refine bd_p ?_ | refine ln_r ?_ | refine ln_e ?_ | refine w_true (b := true) rfl ?_ | refine w_false (b := false) rfl ?_ | refine w_item (S.rdr hrd) (by assumption) ?_ | refine h_item (S.rdr hrd) (by assumption) ?_ | refine w_num (S.rdr hro) (by assumption) ?_ | refine ld_sln S rfl ?_ | refine ld_sl S _ _ _ rfl ?_)
  refine rt_1 rfl ⟨_, ⟨?_, rfl⟩, S.only [.ck c]⟩
  exact Prod.ext (eqF _) rfl
theorem c_bSetHint {c : Ck} {o : List Int} {op : Option PA} {on oc : Nat} (hr : Rdr c (op, on, oc) LN o) (hl : o.length ≤ 2147483647) {d : Int} {nl : Bool} (hd : d ≤ 128) {xs : List IV} {sp : Option PA} {n cap : Nat} (hx : Rdr c (sp, n, cap) LT xs) (hxl : xs.length ≤ 2147483647) {G : PA → Prop} (hG : Star [c] h G) :
    HT Try.prog fn_laws_bSetHint [.agg [.sl op on oc, .int .i64 d, .bool nl], .c (.sl sp n cap)] false [.c .bool] h fun r h' => ∃ post, (r = (true, ()) ∧ post = [c]) ∧ St h G post h' := by
  apply hc_laws_bSetHint
  unfold M_laws_bSetHint
  have htl := treeO_len o xs
  have hsl := setsF_len o [] xs
  refine st_alloc (St.start hG) fun n0 _ S => ?_
  (refine ld_sl S op on oc rfl (ld_int S rfl (ld_bool S rfl ?_)))
  refine st_callT S [.ck c] (fun G hG => c_BSetHintI hr hl hd hx hxl hG) ?_
  rintro _ _ _ ⟨s, t, rfl, hs, ht, rfl⟩ S
  dsimp only [List.cons_append, List.nil_append] at S
  (refine ld_sl S op on oc rfl (ld_int S rfl (ld_bool S rfl ?_)))
  refine st_callT S [.ck c] (fun G hG => c_specGSet hr hl hx hxl hG) ?_
  rintro _ _ _ ⟨s2, t2, rfl, hs2, ht2, rfl⟩ S
  dsimp only [List.cons_append, List.nil_append] at S
  refine w_mid' none (fun (y : SV [.c .bool]) h' => y = (true, ()) ∧ St h G [c] h') ?_ (fun _ _ ⟨e, S⟩ => by subst e; exact rt_1 rfl ⟨_, ⟨rfl, rfl⟩, S⟩)
  refine st_eqF S hs hs2 (by omega) fun _ S => w_true rfl ?_
  refine st_eqT S (.sl t) (.sl t2) ht.rdr ht2.rdr (by omega) fun _ S => ?_
  exact md_n rfl ⟨by simp, S.only [.ck c]⟩
theorem c_bClear {c : Ck} {o : List Int} {op : Option PA} {on oc : Nat} (hr : Rdr c (op, on, oc) LN o) (hl : o.length ≤ 2147483647) {d : Int} {nl : Bool} (hd : d ≤ 128) {xs : List IV} {sp : Option PA} {n cap : Nat} (hx : Rdr c (sp, n, cap) LT xs) (hxl : xs.length ≤ 2147483647) {ks : List IV} {kp : Option PA} {kn kc : Nat} (hk : Rdr c (kp, kn, kc) LT ks) (hkl : ks.length ≤ 2147483647) {G : PA → Prop} (hG : Star [c] h G) :
    HT Try.prog fn_laws_bClear [.agg [.sl op on oc, .int .i64 d, .bool nl], .c (.sl sp n cap), .c (.sl kp kn kc)] false [.c .bool] h fun r h' => ∃ post, (r = (true, ()) ∧ post = [c]) ∧ St h G post h' := by
  apply hc_laws_bClear
  unfold M_laws_bClear
  have htl := treeO_len o ks
  have hsl := setsF_len o [] ks
  refine st_alloc (St.start hG) fun n0 _ S => ?_
  (refine ld_sl S op on oc rfl (ld_int S rfl (ld_bool S rfl ?_)))
  refine st_callT S [.ck c] (fun G hG => c_BClearI hr hl hd hx hxl hk hkl hG) ?_
  rintro _ _ _ ⟨s, t, rfl, hs, ht, rfl⟩ S
  dsimp only [List.cons_append, List.nil_append] at S
  (refine ld_sl S op on oc rfl (ld_int S rfl (ld_bool S rfl ?_)))
  refine st_callT S [.ck c] (fun G hG => c_specGClear hr hl hk hkl hG) ?_
  rintro _ _ _ ⟨s2, t2, rfl, hs2, ht2, rfl⟩ S
  dsimp only [List.cons_append, List.nil_append] at S
  refine w_mid' none (fun (y : SV [.c .bool]) h' => y = (true, ()) ∧ St h G [c] h') ?_ (fun _ _ ⟨e, S⟩ => by subst e; exact rt_1 rfl ⟨_, ⟨rfl, rfl⟩, S⟩)
  refine w_true rfl ?_
  refine st_eqF S hs hs2 (by omega) fun _ S => w_true rfl ?_
  refine st_eqT S (.sl t) (.sl t2) ht.rdr ht2.rdr (by omega) fun _ S => ?_
  exact md_n rfl ⟨by simp, S.only [.ck c]⟩
set_option maxHeartbeats 1000000 in
theorem c_FnExactBLen {hI : H} {o : List Int} {op : Option PA} {on oc : Nat} (hr : Rdr (BaC hI) (op, on, oc) LN o) {d : Int} {nl : Bool} {xs : List IV} {sp : Option PA} {n cap : Nat} (hx : Rdr (BaC hI) (sp, n, cap) LT xs)  {G : PA → Prop} (hG : Star [BaC hI] h G) :
    HT Try.prog fn_laws_FnExactBLen [.agg [.sl op on oc, .int .i64 d, .bool nl], .c (.sl sp n cap)] false [.c .bool] h fun r h' => ∃ post, (r = (true, ()) ∧ post = [BaC hI]) ∧ St h G post h' := by
  apply hc_laws_FnExactBLen
  unfold M_laws_FnExactBLen
  have hno : on = o.length := hr.1
  have hn : n = xs.length := hx.1
  refine st_alloc (St.start hG) fun n0 _ S => ?_
  skip
  refine w_mid' none (fun (y : SV [.c .bool]) h' => (y = (true, ()) ∨ y = (false, ()) ∧ on ≤ 2147483647 ∧ n ≤ 2147483647) ∧ St h G [Ow (n0, 0) (List.map Cell.val [.sl op on oc, .int .i64 d, .bool nl]) 0, BaC hI] h') ?_ ?_
  · refine ld_sl S op on oc rfl (ld_int S rfl (ld_bool S rfl ?_))
    refine st_callT S [] (fun G hG => c_zzFits1 hG) ?_
    rintro _ _ _ ⟨rfl, rfl⟩ S
    dsimp only [List.cons_append, List.nil_append] at S
    by_cases hbo : on > 2147483647
    · exact w_true (by rw [decide_eq_false (by (first | omega | ((try dsimp only [Sh.T, Sh1.T]); omega)))]; rfl) (md_n rfl ⟨.inl rfl, S.only [.ow (n0, 0), .ck (BaC hI)]⟩)
    refine w_false (by rw [decide_eq_true (by (first | omega | ((try dsimp only [Sh.T, Sh1.T]); omega)))]; rfl) ?_
    by_cases hb0 : n > 2147483647
    · exact md_n (x := (true, ())) (by rw [decide_eq_true (by omega)]; rfl) ⟨.inl rfl, S.only [.ow (n0, 0), .ck (BaC hI)]⟩
    exact md_n (x := (false, ())) (by rw [decide_eq_false (by omega)]; rfl) ⟨.inr ⟨rfl, by omega, by omega⟩, S.only [.ow (n0, 0), .ck (BaC hI)]⟩
  rintro _ _ ⟨rfl | ⟨rfl, hz0, hz1⟩, S⟩
  · exact w_true rfl (rt_1 rfl ⟨_, ⟨rfl, rfl⟩, S.only [.ck (BaC hI)]⟩)
  refine w_false rfl ?_
  refine w_mid' none (fun (y : SV [.c .bool]) h' => y = (true, ()) ∧ St h G [BaC hI] h') ?_ (fun _ _ ⟨e, S⟩ => by subst e; exact rt_1 rfl ⟨_, ⟨rfl, rfl⟩, S⟩)
  refine st_callT S [] (fun G hG => c_exMake hG) ?_
  rintro _ _ _ ⟨rfl, rfl⟩ S
  dsimp only [List.cons_append, List.nil_append] at S
  refine st_callT S [] (fun G hG => c_exItems hG) ?_
  rintro _ _ _ ⟨ne, rfl, rfl⟩ S
  dsimp only [List.cons_append, List.nil_append] at S
  skip
  refine st_callT S [.ck (Ow (ne, 0) (LT.flat exI) 0)] (fun G hG => c_bLen (o := []) Rdr.nil (by decide) (by decide) (Rdr.ow (xs := exI) rfl) (by decide) hG) ?_
  rintro _ _ _ ⟨rfl, rfl⟩ S
  dsimp only [List.cons_append, List.nil_append] at S
  refine w_true rfl (ld_int S rfl ?_)
  refine w_callT c_Fits ?_
  rintro _ _ ⟨rfl, rfl⟩
  by_cases hf : d = 0 ∨ 2 ≤ d ∧ d ≤ 128
  · refine w_false (by rw [decide_eq_true hf]; rfl) ?_
    refine ld_sl S op on oc rfl (ld_int S rfl (ld_bool S rfl ?_))
    skip
    refine st_callT S [.ck (BaC hI)] (fun G hG => c_bLen hr (by omega) (by omega) hx (by omega) hG) ?_
    rintro _ _ _ ⟨rfl, rfl⟩ S
    dsimp only [List.cons_append, List.nil_append] at S
    exact md_n rfl ⟨rfl, S.only [.ck (BaC hI)]⟩
  · exact w_true (by rw [decide_eq_false hf]; rfl) (md_n rfl ⟨rfl, S.only [.ck (BaC hI)]⟩)
set_option maxHeartbeats 1000000 in
theorem c_FnExactBMax {hI : H} {o : List Int} {op : Option PA} {on oc : Nat} (hr : Rdr (BaC hI) (op, on, oc) LN o) {d : Int} {nl : Bool} {xs : List IV} {sp : Option PA} {n cap : Nat} (hx : Rdr (BaC hI) (sp, n, cap) LT xs)  {G : PA → Prop} (hG : Star [BaC hI] h G) :
    HT Try.prog fn_laws_FnExactBMax [.agg [.sl op on oc, .int .i64 d, .bool nl], .c (.sl sp n cap)] false [.c .bool] h fun r h' => ∃ post, (r = (true, ()) ∧ post = [BaC hI]) ∧ St h G post h' := by
  apply hc_laws_FnExactBMax
  unfold M_laws_FnExactBMax
  have hno : on = o.length := hr.1
  have hn : n = xs.length := hx.1
  refine st_alloc (St.start hG) fun n0 _ S => ?_
  skip
  refine w_mid' none (fun (y : SV [.c .bool]) h' => (y = (true, ()) ∨ y = (false, ()) ∧ on ≤ 2147483647 ∧ n ≤ 2147483647) ∧ St h G [Ow (n0, 0) (List.map Cell.val [.sl op on oc, .int .i64 d, .bool nl]) 0, BaC hI] h') ?_ ?_
  · refine ld_sl S op on oc rfl (ld_int S rfl (ld_bool S rfl ?_))
    refine st_callT S [] (fun G hG => c_zzFits1 hG) ?_
    rintro _ _ _ ⟨rfl, rfl⟩ S
    dsimp only [List.cons_append, List.nil_append] at S
    by_cases hbo : on > 2147483647
    · exact w_true (by rw [decide_eq_false (by (first | omega | ((try dsimp only [Sh.T, Sh1.T]); omega)))]; rfl) (md_n rfl ⟨.inl rfl, S.only [.ow (n0, 0), .ck (BaC hI)]⟩)
    refine w_false (by rw [decide_eq_true (by (first | omega | ((try dsimp only [Sh.T, Sh1.T]); omega)))]; rfl) ?_
    by_cases hb0 : n > 2147483647
    · exact md_n (x := (true, ())) (by rw [decide_eq_true (by omega)]; rfl) ⟨.inl rfl, S.only [.ow (n0, 0), .ck (BaC hI)]⟩
    exact md_n (x := (false, ())) (by rw [decide_eq_false (by omega)]; rfl) ⟨.inr ⟨rfl, by omega, by omega⟩, S.only [.ow (n0, 0), .ck (BaC hI)]⟩
  rintro _ _ ⟨rfl | ⟨rfl, hz0, hz1⟩, S⟩
  · exact w_true rfl (rt_1 rfl ⟨_, ⟨rfl, rfl⟩, S.only [.ck (BaC hI)]⟩)
  refine w_false rfl ?_
  refine w_mid' none (fun (y : SV [.c .bool]) h' => y = (true, ()) ∧ St h G [BaC hI] h') ?_ (fun _ _ ⟨e, S⟩ => by subst e; exact rt_1 rfl ⟨_, ⟨rfl, rfl⟩, S⟩)
  refine st_callT S [] (fun G hG => c_exMake hG) ?_
  rintro _ _ _ ⟨rfl, rfl⟩ S
  dsimp only [List.cons_append, List.nil_append] at S
  refine st_callT S [] (fun G hG => c_exItems hG) ?_
  rintro _ _ _ ⟨ne, rfl, rfl⟩ S
  dsimp only [List.cons_append, List.nil_append] at S
  skip
  refine st_callT S [.ck (Ow (ne, 0) (LT.flat exI) 0)] (fun G hG => c_bMax (o := []) Rdr.nil (by decide) (by decide) (Rdr.ow (xs := exI) rfl) (by decide) hG) ?_
  rintro _ _ _ ⟨rfl, rfl⟩ S
  dsimp only [List.cons_append, List.nil_append] at S
  refine w_true rfl (ld_int S rfl ?_)
  refine w_callT c_Fits ?_
  rintro _ _ ⟨rfl, rfl⟩
  by_cases hf : d = 0 ∨ 2 ≤ d ∧ d ≤ 128
  · refine w_false (by rw [decide_eq_true hf]; rfl) ?_
    refine ld_sl S op on oc rfl (ld_int S rfl (ld_bool S rfl ?_))
    skip
    refine st_callT S [.ck (BaC hI)] (fun G hG => c_bMax hr (by omega) (by omega) hx (by omega) hG) ?_
    rintro _ _ _ ⟨rfl, rfl⟩ S
    dsimp only [List.cons_append, List.nil_append] at S
    exact md_n rfl ⟨rfl, S.only [.ck (BaC hI)]⟩
  · exact w_true (by rw [decide_eq_false hf]; rfl) (md_n rfl ⟨rfl, S.only [.ck (BaC hI)]⟩)
set_option maxHeartbeats 1000000 in
theorem c_FnExactBSetHint {hI : H} {o : List Int} {op : Option PA} {on oc : Nat} (hr : Rdr (BaC hI) (op, on, oc) LN o) {d : Int} {nl : Bool} {xs : List IV} {sp : Option PA} {n cap : Nat} (hx : Rdr (BaC hI) (sp, n, cap) LT xs)  {G : PA → Prop} (hG : Star [BaC hI] h G) :
    HT Try.prog fn_laws_FnExactBSetHint [.agg [.sl op on oc, .int .i64 d, .bool nl], .c (.sl sp n cap)] false [.c .bool] h fun r h' => ∃ post, (r = (true, ()) ∧ post = [BaC hI]) ∧ St h G post h' := by
  apply hc_laws_FnExactBSetHint
  unfold M_laws_FnExactBSetHint
  have hno : on = o.length := hr.1
  have hn : n = xs.length := hx.1
  refine st_alloc (St.start hG) fun n0 _ S => ?_
  skip
  refine w_mid' none (fun (y : SV [.c .bool]) h' => (y = (true, ()) ∨ y = (false, ()) ∧ on ≤ 2147483647 ∧ n ≤ 2147483647) ∧ St h G [Ow (n0, 0) (List.map Cell.val [.sl op on oc, .int .i64 d, .bool nl]) 0, BaC hI] h') ?_ ?_
  · refine ld_sl S op on oc rfl (ld_int S rfl (ld_bool S rfl ?_))
    refine st_callT S [] (fun G hG => c_zzFits1 hG) ?_
    rintro _ _ _ ⟨rfl, rfl⟩ S
    dsimp only [List.cons_append, List.nil_append] at S
    by_cases hbo : on > 2147483647
    · exact w_true (by rw [decide_eq_false (by (first | omega | ((try dsimp only [Sh.T, Sh1.T]); omega)))]; rfl) (md_n rfl ⟨.inl rfl, S.only [.ow (n0, 0), .ck (BaC hI)]⟩)
    refine w_false (by rw [decide_eq_true (by (first | omega | ((try dsimp only [Sh.T, Sh1.T]); omega)))]; rfl) ?_
    by_cases hb0 : n > 2147483647
    · exact md_n (x := (true, ())) (by rw [decide_eq_true (by omega)]; rfl) ⟨.inl rfl, S.only [.ow (n0, 0), .ck (BaC hI)]⟩
    exact md_n (x := (false, ())) (by rw [decide_eq_false (by omega)]; rfl) ⟨.inr ⟨rfl, by omega, by omega⟩, S.only [.ow (n0, 0), .ck (BaC hI)]⟩
  rintro _ _ ⟨rfl | ⟨rfl, hz0, hz1⟩, S⟩
  · exact w_true rfl (rt_1 rfl ⟨_, ⟨rfl, rfl⟩, S.only [.ck (BaC hI)]⟩)
  refine w_false rfl ?_
  refine w_mid' none (fun (y : SV [.c .bool]) h' => y = (true, ()) ∧ St h G [BaC hI] h') ?_ (fun _ _ ⟨e, S⟩ => by subst e; exact rt_1 rfl ⟨_, ⟨rfl, rfl⟩, S⟩)
  refine st_callT S [] (fun G hG => c_exMake hG) ?_
  rintro _ _ _ ⟨rfl, rfl⟩ S
  dsimp only [List.cons_append, List.nil_append] at S
  refine st_callT S [] (fun G hG => c_exItems hG) ?_
  rintro _ _ _ ⟨ne, rfl, rfl⟩ S
  dsimp only [List.cons_append, List.nil_append] at S
  skip
  refine st_callT S [.ck (Ow (ne, 0) (LT.flat exI) 0)] (fun G hG => c_bSetHint (o := []) Rdr.nil (by decide) (by decide) (Rdr.ow (xs := exI) rfl) (by decide) hG) ?_
  rintro _ _ _ ⟨rfl, rfl⟩ S
  dsimp only [List.cons_append, List.nil_append] at S
  refine w_true rfl (ld_int S rfl ?_)
  refine w_callT c_Fits ?_
  rintro _ _ ⟨rfl, rfl⟩
  by_cases hf : d = 0 ∨ 2 ≤ d ∧ d ≤ 128
  · refine w_false (by rw [decide_eq_true hf]; rfl) ?_
    refine ld_sl S op on oc rfl (ld_int S rfl (ld_bool S rfl ?_))
    skip
    refine st_callT S [.ck (BaC hI)] (fun G hG => c_bSetHint hr (by omega) (by omega) hx (by omega) hG) ?_
    rintro _ _ _ ⟨rfl, rfl⟩ S
    dsimp only [List.cons_append, List.nil_append] at S
    exact md_n rfl ⟨rfl, S.only [.ck (BaC hI)]⟩
  · exact w_true (by rw [decide_eq_false hf]; rfl) (md_n rfl ⟨rfl, S.only [.ck (BaC hI)]⟩)
set_option maxHeartbeats 1000000 in
theorem c_FnExactBClear {hI : H} {o : List Int} {op : Option PA} {on oc : Nat} (hr : Rdr (BaC hI) (op, on, oc) LN o) {d : Int} {nl : Bool} {xs : List IV} {sp : Option PA} {n cap : Nat} (hx : Rdr (BaC hI) (sp, n, cap) LT xs) {ks : List IV} {kp : Option PA} {kn kc : Nat} (hk : Rdr (BaC hI) (kp, kn, kc) LT ks) {G : PA → Prop} (hG : Star [BaC hI] h G) :
    HT Try.prog fn_laws_FnExactBClear [.agg [.sl op on oc, .int .i64 d, .bool nl], .c (.sl sp n cap), .c (.sl kp kn kc)] false [.c .bool] h fun r h' => ∃ post, (r = (true, ()) ∧ post = [BaC hI]) ∧ St h G post h' := by
  apply hc_laws_FnExactBClear
  unfold M_laws_FnExactBClear
  have hno : on = o.length := hr.1
  have hn : n = xs.length := hx.1
  refine st_alloc (St.start hG) fun n0 _ S => ?_
  skip
  refine w_mid' none (fun (y : SV [.c .bool]) h' => (y = (true, ()) ∨ y = (false, ()) ∧ on ≤ 2147483647 ∧ n ≤ 2147483647 ∧ kn ≤ 2147483647) ∧ St h G [Ow (n0, 0) (List.map Cell.val [.sl op on oc, .int .i64 d, .bool nl]) 0, BaC hI] h') ?_ ?_
  · refine ld_sl S op on oc rfl (ld_int S rfl (ld_bool S rfl ?_))
    refine st_callT S [] (fun G hG => c_zzFits1 hG) ?_
    rintro _ _ _ ⟨rfl, rfl⟩ S
    dsimp only [List.cons_append, List.nil_append] at S
    by_cases hbo : on > 2147483647
    · exact w_true (by rw [decide_eq_false (by (first | omega | ((try dsimp only [Sh.T, Sh1.T]); omega)))]; rfl) (md_n rfl ⟨.inl rfl, S.only [.ow (n0, 0), .ck (BaC hI)]⟩)
    refine w_false (by rw [decide_eq_true (by (first | omega | ((try dsimp only [Sh.T, Sh1.T]); omega)))]; rfl) ?_
    by_cases hb0 : n > 2147483647
    · exact w_true (decide_eq_true (by omega)) (md_n rfl ⟨.inl rfl, S.only [.ow (n0, 0), .ck (BaC hI)]⟩)
    refine w_false (decide_eq_false (by omega)) ?_
    by_cases hb1 : kn > 2147483647
    · exact md_n (x := (true, ())) (by rw [decide_eq_true (by omega)]; rfl) ⟨.inl rfl, S.only [.ow (n0, 0), .ck (BaC hI)]⟩
    exact md_n (x := (false, ())) (by rw [decide_eq_false (by omega)]; rfl) ⟨.inr ⟨rfl, by omega, by omega, by omega⟩, S.only [.ow (n0, 0), .ck (BaC hI)]⟩
  rintro _ _ ⟨rfl | ⟨rfl, hz0, hz1, hz2⟩, S⟩
  · exact w_true rfl (rt_1 rfl ⟨_, ⟨rfl, rfl⟩, S.only [.ck (BaC hI)]⟩)
  refine w_false rfl ?_
  refine w_mid' none (fun (y : SV [.c .bool]) h' => y = (true, ()) ∧ St h G [BaC hI] h') ?_ (fun _ _ ⟨e, S⟩ => by subst e; exact rt_1 rfl ⟨_, ⟨rfl, rfl⟩, S⟩)
  refine st_callT S [] (fun G hG => c_exMake hG) ?_
  rintro _ _ _ ⟨rfl, rfl⟩ S
  dsimp only [List.cons_append, List.nil_append] at S
  refine st_callT S [] (fun G hG => c_exItems hG) ?_
  rintro _ _ _ ⟨ne, rfl, rfl⟩ S
  dsimp only [List.cons_append, List.nil_append] at S
  (refine st_callT S [] (fun G hG => c_exKeys hG) ?_; rintro _ _ _ ⟨nk, rfl, rfl⟩ S; dsimp only [List.cons_append, List.nil_append] at S; have S := S.ats [.ow (ne, 0), .ow (nk, 0)])
  refine st_callT (l := StC [Ow (ne, 0) (LT.flat exI) 0, Ow (nk, 0) (LT.flat exK) 0] :: _) (St.st_in (m := [_, _]) S) [.ck (StC [Ow (ne, 0) (LT.flat exI) 0, Ow (nk, 0) (LT.flat exK) 0])] (fun G hG => c_bClear (o := []) Rdr.nil (by decide) (by decide) (Rdr.st (i := 0) rfl (Rdr.ow (xs := exI) rfl)) (by decide) (Rdr.st (i := 1) rfl (Rdr.ow (xs := exK) rfl)) (by decide) hG) ?_
  rintro _ _ _ ⟨rfl, rfl⟩ S
  dsimp only [List.cons_append, List.nil_append] at S
  refine w_true rfl (ld_int S rfl ?_)
  refine w_callT c_Fits ?_
  rintro _ _ ⟨rfl, rfl⟩
  by_cases hf : d = 0 ∨ 2 ≤ d ∧ d ≤ 128
  · refine w_false (by rw [decide_eq_true hf]; rfl) ?_
    refine ld_sl S op on oc rfl (ld_int S rfl (ld_bool S rfl ?_))
    skip
    refine st_callT S [.ck (BaC hI)] (fun G hG => c_bClear hr (by omega) (by omega) hx (by omega) hk (by have := hk.1; dsimp only at this; omega) hG) ?_
    rintro _ _ _ ⟨rfl, rfl⟩ S
    dsimp only [List.cons_append, List.nil_append] at S
    exact md_n rfl ⟨rfl, S.only [.ck (BaC hI)]⟩
  · exact w_true (by rw [decide_eq_false hf]; rfl) (md_n rfl ⟨rfl, S.only [.ck (BaC hI)]⟩)
end
end Go.Proofs.Ytlhbdmjeomffhaa
