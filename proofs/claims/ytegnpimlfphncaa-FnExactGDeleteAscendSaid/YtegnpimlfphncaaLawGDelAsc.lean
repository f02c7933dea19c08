/-
  The law FnExactGDeleteAscend. Conditions: none.
-/
import Derived.Test.YtegnpimlfphncaaYal
import Derived.Test.YtegnpimlfphncaaYeh
import Derived.Test.YtegnpimlfphncaaPf
set_option linter.unusedVariables false
set_option linter.unusedSimpArgs false
set_option linter.unusedSectionVars false
set_option maxRecDepth 100000
namespace Go.Proofs.Ytegnpimlfphncaa
open Go
def M_impl_action (a0 : Int) : M :=
  .ite (a0 == 0)
  (.done .ret [.c (.int .i64 (0))])
  (.ite (a0 == 1)
    (.done .ret [.c (.int .i64 (1))])
    (.done .ret [.c (.int .i64 (2))]))
theorem den_impl_action (a0 : Int) : denFn Try.prog Try.f25 [.c (.int .i64 a0)] = M_impl_action a0 := by kernel_rfl
theorem hc_impl_action (a0 : Int) {h : H} {R : Value → H → Prop} (hw : wp Try.prog (M_impl_action a0) (Ret R) h) : HC Try.prog fn_impl_action (List.map AV.val [.c (.int .i64 a0)]).toArray h R :=
  den_calls hmix Try.func25 (of_decide_eq_true rfl) (by rw [den_impl_action]; exact hw)
def M_impl_GDeleteAscend_1 (a00 : Int) (a01 : Int) (f0 : PA) (f1 : PA) : M :=
  .alloc ty_impl_Item [.int .i64 (a00), .int .i64 (a01)] fun n0 =>
  .load f0 (.sl) fun s1 =>
  .load (n0, 0) (.int .i64) fun i2 =>
  .load (n0, 1) (.int .i64) fun i3 =>
  .alloc ty_impl_Item [.int .i64 (i2), .int .i64 (i3)] fun n4 =>
  .append ty_impl_Item 2 16 [.int .i64 (0), .int .i64 (0)] ((s1.fst), s1.snd.fst, s1.snd.snd) ((some (n4, 0)), 1, 1) fun s5 =>
  .store f0 (.sl (s5.fst) (s5.snd.fst) (s5.snd.snd)) <|
  .load f0 (.sl) fun s6 =>
  .load f1 (.sl) fun s7 =>
  .ite (decide ((↑s6.snd.fst : Int) > (↑s7.snd.fst : Int)))
  (.done .ret [.c (.int .i64 (0))])
  (.load f1 (.sl) fun s8 =>
    .load f0 (.sl) fun s9 =>
    .guard (InK IntKind.i64 ((↑s9.snd.fst : Int) - 1)) <|
    .nonnil (s8.fst) fun p10 =>
    .guard (((0 : Int) ≤ (↑s9.snd.fst : Int) - 1) ∧ (((↑s9.snd.fst : Int) - 1 : Int) < (↑s8.snd.fst : Int))) <|
    .load (p10.fst, p10.snd + ((↑s9.snd.fst : Int) - 1).toNat) (.int .i64) fun i11 =>
    .call fn_impl_action [.c (.int .i64 (i11))] false [.c (.int .i64)] fun r12 =>
    .done .ret [.c (.int .i64 (r12.fst))])
theorem den_impl_GDeleteAscend_1 (a00 : Int) (a01 : Int) (f0 : PA) (f1 : PA) : denFn Try.prog Try.f24 [.agg [.int .i64 a00, .int .i64 a01], .c (.addr f0), .c (.addr f1)] = M_impl_GDeleteAscend_1 a00 a01 f0 f1 := by kernel_rfl
theorem hc_impl_GDeleteAscend_1 (a00 : Int) (a01 : Int) (f0 : PA) (f1 : PA) {h : H} {R : Value → H → Prop} (hw : wp Try.prog (M_impl_GDeleteAscend_1 a00 a01 f0 f1) (Ret R) h) : HC Try.prog fn_impl_GDeleteAscend_1 (List.map AV.val [.agg [.int .i64 a00, .int .i64 a01], .c (.addr f0), .c (.addr f1)]).toArray h R :=
  den_calls hmix Try.func24 (of_decide_eq_true rfl) (by rw [den_impl_GDeleteAscend_1]; exact hw)
def M_spec_GDeleteAscend (a00p : Option PA) (a00l : Nat) (a00c : Nat) (a01 : Int) (a02 : Bool) (a1p : Option PA) (a1l : Nat) (a1c : Nat) (a20 : Int) (a21 : Int) (a3p : Option PA) (a3l : Nat) (a3c : Nat) : M :=
  .alloc ty_impl_Make [.sl (a00p) (a00l) (a00c), .int .i64 (a01), .bool (a02)] fun n0 =>
  .alloc ty_impl_Item [.int .i64 (a20), .int .i64 (a21)] fun n1 =>
  .load (n0, 0) (.sl) fun s2 =>
  .call fn_spec_Tree [.c (.sl (s2.fst) (s2.snd.fst) (s2.snd.snd)), .c (.sl (a1p) (a1l) (a1c))] false [.c (.sl)] fun r3 =>
  .load (n0, 0) (.sl) fun s4 =>
  .load (n1, 0) (.int .i64) fun i5 =>
  .load (n1, 1) (.int .i64) fun i6 =>
  .call fn_spec_Place [.c (.sl (s4.fst) (s4.snd.fst) (s4.snd.snd)), .c (.sl (r3.fst.fst) (r3.fst.snd.fst) (r3.fst.snd.snd)), .agg [.int .i64 (i5), .int .i64 (i6)]] true [.c (.int .i64), .c (.bool)] fun r7 =>
  .alloc ty_impl_Item [] fun n8 =>
  .guard (((0 : Int) ≤ r7.fst) ∧ ((r7.fst : Int) ≤ (↑r3.fst.snd.snd : Int))) <|
  .append ty_impl_Item 2 16 [.int .i64 (0), .int .i64 (0)] ((some (n8, 0)), 0, 0) ((slBase r3.fst.fst r3.fst.snd.snd 0 2), Int.toNat r7.fst - 0, r3.fst.snd.snd - 0) fun s9 =>
  .bind (some 0) (.loop [.c (.int .i64), .c (.int .i64), .c (.sl), .c (.sl)] [.c (.int .i64 (0)), .c (.int .i64 (r7.fst)), .c (.sl (s9.fst) (s9.snd.fst) (s9.snd.snd)), .c (.sl none (0) (0))] fun y10 =>
      .ite (decide (y10.snd.fst < (↑r3.fst.snd.fst : Int)))
      (.nonnil (r3.fst.fst) fun p11 =>
        .guard (((0 : Int) ≤ y10.snd.fst) ∧ ((y10.snd.fst : Int) < (↑r3.fst.snd.fst : Int))) <|
        .load (p11.fst, p11.snd + mulN (Int.toNat y10.snd.fst) 2) (.int .i64) fun i12 =>
        .load (p11.fst, p11.snd + mulN (Int.toNat y10.snd.fst) 2 + 1) (.int .i64) fun i13 =>
        .alloc ty_impl_Item [.int .i64 (i12), .int .i64 (i13)] fun n14 =>
        .append ty_impl_Item 2 16 [.int .i64 (0), .int .i64 (0)] ((y10.snd.snd.snd.fst.fst), y10.snd.snd.snd.fst.snd.fst, y10.snd.snd.snd.fst.snd.snd) ((some (n14, 0)), 1, 1) fun s15 =>
        .bind none (.ite (decide (y10.fst ≥ (↑a3l : Int)))
          (.done .normal [.c (.tt)])
          (.nonnil (a3p) fun p16 =>
            .guard (((0 : Int) ≤ y10.fst) ∧ ((y10.fst : Int) < (↑a3l : Int))) <|
            .load (p16.fst, p16.snd + Int.toNat y10.fst) (.int .i64) fun i17 =>
            .done .normal [.c (.bool (i17 == 0))])) [.c (.bool)] fun x18 =>
        .ite (x18.fst)
        (.done (.exit 0) [.c (.int .i64 (y10.snd.fst)), .c (.sl (y10.snd.snd.fst.fst) (y10.snd.snd.fst.snd.fst) (y10.snd.snd.fst.snd.snd)), .c (.sl (s15.fst) (s15.snd.fst) (s15.snd.snd))])
        (.nonnil (a3p) fun p19 =>
          .guard (((0 : Int) ≤ y10.fst) ∧ ((y10.fst : Int) < (↑a3l : Int))) <|
          .load (p19.fst, p19.snd + Int.toNat y10.fst) (.int .i64) fun i20 =>
          .bind none (.ite (i20 == 1)
            (.nonnil (r3.fst.fst) fun p21 =>
              .guard (((0 : Int) ≤ y10.snd.fst) ∧ ((y10.snd.fst : Int) < (↑r3.fst.snd.fst : Int))) <|
              .load (p21.fst, p21.snd + mulN (Int.toNat y10.snd.fst) 2) (.int .i64) fun i22 =>
              .load (p21.fst, p21.snd + mulN (Int.toNat y10.snd.fst) 2 + 1) (.int .i64) fun i23 =>
              .alloc ty_impl_Item [.int .i64 (i22), .int .i64 (i23)] fun n24 =>
              .append ty_impl_Item 2 16 [.int .i64 (0), .int .i64 (0)] ((y10.snd.snd.fst.fst), y10.snd.snd.fst.snd.fst, y10.snd.snd.fst.snd.snd) ((some (n24, 0)), 1, 1) fun s25 =>
              .done .normal [.c (.sl (s25.fst) (s25.snd.fst) (s25.snd.snd))])
            (.done .normal [.c (.sl (y10.snd.snd.fst.fst) (y10.snd.snd.fst.snd.fst) (y10.snd.snd.fst.snd.snd))])) [.c (.sl)] fun x26 =>
          .guard (InK IntKind.i64 (y10.snd.fst + 1)) <|
          .guard (InK IntKind.i64 (y10.fst + 1)) <|
          .done .normal [.c (.int .i64 (y10.fst + 1)), .c (.int .i64 (y10.snd.fst + 1)), .c (.sl (x26.fst.fst) (x26.fst.snd.fst) (x26.fst.snd.snd)), .c (.sl (s15.fst) (s15.snd.fst) (s15.snd.snd))]))
      (.done (.exit 0) [.c (.int .i64 (y10.snd.fst)), .c (.sl (y10.snd.snd.fst.fst) (y10.snd.snd.fst.snd.fst) (y10.snd.snd.fst.snd.snd)), .c (.sl (y10.snd.snd.snd.fst.fst) (y10.snd.snd.snd.fst.snd.fst) (y10.snd.snd.snd.fst.snd.snd))])) [.c (.int .i64), .c (.sl), .c (.sl)] fun x27 =>
  .guard (((0 : Int) ≤ x27.fst) ∧ ((x27.fst : Int) ≤ (↑r3.fst.snd.fst : Int))) <|
  .append ty_impl_Item 2 16 [.int .i64 (0), .int .i64 (0)] ((x27.snd.fst.fst), x27.snd.fst.snd.fst, x27.snd.fst.snd.snd) ((slBase r3.fst.fst r3.fst.snd.snd (Int.toNat x27.fst) 2), r3.fst.snd.fst - Int.toNat x27.fst, r3.fst.snd.snd - Int.toNat x27.fst) fun s28 =>
  .done .ret [.c (.sl (x27.snd.snd.fst.fst) (x27.snd.snd.fst.snd.fst) (x27.snd.snd.fst.snd.snd)), .c (.sl (s28.fst) (s28.snd.fst) (s28.snd.snd))]
theorem den_spec_GDeleteAscend (a00p : Option PA) (a00l : Nat) (a00c : Nat) (a01 : Int) (a02 : Bool) (a1p : Option PA) (a1l : Nat) (a1c : Nat) (a20 : Int) (a21 : Int) (a3p : Option PA) (a3l : Nat) (a3c : Nat) : denFn Try.prog Try.f15 [.agg [.sl a00p a00l a00c, .int .i64 a01, .bool a02], .c (.sl a1p a1l a1c), .agg [.int .i64 a20, .int .i64 a21], .c (.sl a3p a3l a3c)] = M_spec_GDeleteAscend a00p a00l a00c a01 a02 a1p a1l a1c a20 a21 a3p a3l a3c := by kernel_rfl
theorem hc_spec_GDeleteAscend (a00p : Option PA) (a00l : Nat) (a00c : Nat) (a01 : Int) (a02 : Bool) (a1p : Option PA) (a1l : Nat) (a1c : Nat) (a20 : Int) (a21 : Int) (a3p : Option PA) (a3l : Nat) (a3c : Nat) {h : H} {R : Value → H → Prop} (hw : wp Try.prog (M_spec_GDeleteAscend a00p a00l a00c a01 a02 a1p a1l a1c a20 a21 a3p a3l a3c) (Ret R) h) : HC Try.prog fn_spec_GDeleteAscend (List.map AV.val [.agg [.sl a00p a00l a00c, .int .i64 a01, .bool a02], .c (.sl a1p a1l a1c), .agg [.int .i64 a20, .int .i64 a21], .c (.sl a3p a3l a3c)]).toArray h R :=
  den_calls hmix Try.func15 (of_decide_eq_true rfl) (by rw [den_spec_GDeleteAscend]; exact hw)
def M_impl_GDeleteAscend (a00p : Option PA) (a00l : Nat) (a00c : Nat) (a01 : Int) (a02 : Bool) (a1p : Option PA) (a1l : Nat) (a1c : Nat) (a20 : Int) (a21 : Int) (a3p : Option PA) (a3l : Nat) (a3c : Nat) : M :=
  .alloc ty_impl_Make [.sl (a00p) (a00l) (a00c), .int .i64 (a01), .bool (a02)] fun n0 =>
  .alloc ty_impl_Item [.int .i64 (a20), .int .i64 (a21)] fun n1 =>
  .alloc ty_sl_int [.sl (a3p) (a3l) (a3c)] fun n2 =>
  .load (n0, 0) (.sl) fun s3 =>
  .load (n0, 1) (.int .i64) fun i4 =>
  .load (n0, 2) (.bool) fun b5 =>
  .call fn_impl_grow [.agg [.sl (s3.fst) (s3.snd.fst) (s3.snd.snd), .int .i64 (i4), .bool (b5)], .c (.sl (a1p) (a1l) (a1c))] false [.c (.ptr)] fun r6 =>
  .alloc ty_sl_impl_Item [.sl none (0) (0)] fun n7 =>
  .load (n1, 0) (.int .i64) fun i8 =>
  .load (n1, 1) (.int .i64) fun i9 =>
  .call fn_tg_DeleteAscend [.c (.ptr (r6.fst)), .agg [.int .i64 (i8), .int .i64 (i9)], .c (.raw (Value.func (Fn.func fn_impl_GDeleteAscend_1) (List.map AV.val []).toArray (List.map AV.val [AV.c (Cell.addr (n7, 0)), AV.c (Cell.addr (n2, 0))]).toArray))] true [] fun r10 =>
  .load (n7, 0) (.sl) fun s11 =>
  .call fn_tg_Items [.c (.ptr (r6.fst))] false [.c (.sl)] fun r12 =>
  .held (n7, 0) (.sl (s11.fst) (s11.snd.fst) (s11.snd.snd)) <|
  .done .ret [.c (.sl (s11.fst) (s11.snd.fst) (s11.snd.snd)), .c (.sl (r12.fst.fst) (r12.fst.snd.fst) (r12.fst.snd.snd))]
theorem den_impl_GDeleteAscend (a00p : Option PA) (a00l : Nat) (a00c : Nat) (a01 : Int) (a02 : Bool) (a1p : Option PA) (a1l : Nat) (a1c : Nat) (a20 : Int) (a21 : Int) (a3p : Option PA) (a3l : Nat) (a3c : Nat) : denFn Try.prog Try.f14 [.agg [.sl a00p a00l a00c, .int .i64 a01, .bool a02], .c (.sl a1p a1l a1c), .agg [.int .i64 a20, .int .i64 a21], .c (.sl a3p a3l a3c)] = M_impl_GDeleteAscend a00p a00l a00c a01 a02 a1p a1l a1c a20 a21 a3p a3l a3c := by kernel_rfl
theorem hc_impl_GDeleteAscend (a00p : Option PA) (a00l : Nat) (a00c : Nat) (a01 : Int) (a02 : Bool) (a1p : Option PA) (a1l : Nat) (a1c : Nat) (a20 : Int) (a21 : Int) (a3p : Option PA) (a3l : Nat) (a3c : Nat) {h : H} {R : Value → H → Prop} (hw : wp Try.prog (M_impl_GDeleteAscend a00p a00l a00c a01 a02 a1p a1l a1c a20 a21 a3p a3l a3c) (Ret R) h) : HC Try.prog fn_impl_GDeleteAscend (List.map AV.val [.agg [.sl a00p a00l a00c, .int .i64 a01, .bool a02], .c (.sl a1p a1l a1c), .agg [.int .i64 a20, .int .i64 a21], .c (.sl a3p a3l a3c)]).toArray h R :=
  den_calls hmix Try.func14 (of_decide_eq_true rfl) (by rw [den_impl_GDeleteAscend]; exact hw)
def M_laws_gDeleteAscend (a00p : Option PA) (a00l : Nat) (a00c : Nat) (a01 : Int) (a02 : Bool) (a1p : Option PA) (a1l : Nat) (a1c : Nat) (a20 : Int) (a21 : Int) (a3p : Option PA) (a3l : Nat) (a3c : Nat) : M :=
  .alloc ty_impl_Make [.sl (a00p) (a00l) (a00c), .int .i64 (a01), .bool (a02)] fun n0 =>
  .alloc ty_impl_Item [.int .i64 (a20), .int .i64 (a21)] fun n1 =>
  .load (n0, 0) (.sl) fun s2 =>
  .load (n0, 1) (.int .i64) fun i3 =>
  .load (n0, 2) (.bool) fun b4 =>
  .load (n1, 0) (.int .i64) fun i5 =>
  .load (n1, 1) (.int .i64) fun i6 =>
  .call fn_impl_GDeleteAscend [.agg [.sl (s2.fst) (s2.snd.fst) (s2.snd.snd), .int .i64 (i3), .bool (b4)], .c (.sl (a1p) (a1l) (a1c)), .agg [.int .i64 (i5), .int .i64 (i6)], .c (.sl (a3p) (a3l) (a3c))] true [.c (.sl), .c (.sl)] fun r7 =>
  .load (n0, 0) (.sl) fun s8 =>
  .load (n0, 1) (.int .i64) fun i9 =>
  .load (n0, 2) (.bool) fun b10 =>
  .load (n1, 0) (.int .i64) fun i11 =>
  .load (n1, 1) (.int .i64) fun i12 =>
  .call fn_spec_GDeleteAscend [.agg [.sl (s8.fst) (s8.snd.fst) (s8.snd.snd), .int .i64 (i9), .bool (b10)], .c (.sl (a1p) (a1l) (a1c)), .agg [.int .i64 (i11), .int .i64 (i12)], .c (.sl (a3p) (a3l) (a3c))] true [.c (.sl), .c (.sl)] fun r13 =>
  .bind none (.call fn_slices_Equal_impl_Item_impl_Item [.c (.sl (r7.fst.fst) (r7.fst.snd.fst) (r7.fst.snd.snd)), .c (.sl (r13.fst.fst) (r13.fst.snd.fst) (r13.fst.snd.snd))] false [.c (.bool)] fun r14 =>
    .ite (r14.fst)
    (.call fn_slices_Equal_impl_Item_impl_Item [.c (.sl (r7.snd.fst.fst) (r7.snd.fst.snd.fst) (r7.snd.fst.snd.snd)), .c (.sl (r13.snd.fst.fst) (r13.snd.fst.snd.fst) (r13.snd.fst.snd.snd))] false [.c (.bool)] fun r15 =>
      .done .normal [.c (.bool (r15.fst))])
    (.done .normal [.c (.ff)])) [.c (.bool)] fun x16 =>
  .done .ret [.c (.bool (x16.fst))]
theorem den_laws_gDeleteAscend (a00p : Option PA) (a00l : Nat) (a00c : Nat) (a01 : Int) (a02 : Bool) (a1p : Option PA) (a1l : Nat) (a1c : Nat) (a20 : Int) (a21 : Int) (a3p : Option PA) (a3l : Nat) (a3c : Nat) : denFn Try.prog Try.f6 [.agg [.sl a00p a00l a00c, .int .i64 a01, .bool a02], .c (.sl a1p a1l a1c), .agg [.int .i64 a20, .int .i64 a21], .c (.sl a3p a3l a3c)] = M_laws_gDeleteAscend a00p a00l a00c a01 a02 a1p a1l a1c a20 a21 a3p a3l a3c := by kernel_rfl
theorem hc_laws_gDeleteAscend (a00p : Option PA) (a00l : Nat) (a00c : Nat) (a01 : Int) (a02 : Bool) (a1p : Option PA) (a1l : Nat) (a1c : Nat) (a20 : Int) (a21 : Int) (a3p : Option PA) (a3l : Nat) (a3c : Nat) {h : H} {R : Value → H → Prop} (hw : wp Try.prog (M_laws_gDeleteAscend a00p a00l a00c a01 a02 a1p a1l a1c a20 a21 a3p a3l a3c) (Ret R) h) : HC Try.prog fn_laws_gDeleteAscend (List.map AV.val [.agg [.sl a00p a00l a00c, .int .i64 a01, .bool a02], .c (.sl a1p a1l a1c), .agg [.int .i64 a20, .int .i64 a21], .c (.sl a3p a3l a3c)]).toArray h R :=
  den_calls hmix Try.func6 (of_decide_eq_true rfl) (by rw [den_laws_gDeleteAscend]; exact hw)
def M_laws_FnExactGDeleteAscend (a00p : Option PA) (a00l : Nat) (a00c : Nat) (a01 : Int) (a02 : Bool) (a1p : Option PA) (a1l : Nat) (a1c : Nat) (a20 : Int) (a21 : Int) (a3p : Option PA) (a3l : Nat) (a3c : Nat) : M :=
  .alloc ty_impl_Make [.sl (a00p) (a00l) (a00c), .int .i64 (a01), .bool (a02)] fun n0 =>
  .alloc ty_impl_Item [.int .i64 (a20), .int .i64 (a21)] fun n1 =>
  .bind none (.load (n0, 0) (.sl) fun s2 =>
    .load (n0, 1) (.int .i64) fun i3 =>
    .load (n0, 2) (.bool) fun b4 =>
    .call fn_laws_zzFits1 [.agg [.sl (s2.fst) (s2.snd.fst) (s2.snd.snd), .int .i64 (i3), .bool (b4)]] false [.c (.bool)] fun r5 =>
    .ite (!r5.fst)
    (.done .normal [.c (.tt)])
    (.ite (decide ((↑a1l : Int) > 2147483647))
      (.done .normal [.c (.tt)])
      (.done .normal [.c (.bool (decide ((↑a3l : Int) > 2147483647)))]))) [.c (.bool)] fun x6 =>
  .ite (x6.fst)
  (.done .ret [.c (.tt)])
  (.bind none (.call fn_laws_exMake [] false [.agg [.sl, .int .i64, .bool]] fun r7 =>
      .call fn_laws_exItems [] false [.c (.sl)] fun r8 =>
      .alloc ty_int [.int .i64 (2), .int .i64 (1), .int .i64 (2)] fun n9 =>
      .call fn_laws_gDeleteAscend [.agg [.sl (r7.fst.fst.fst) (r7.fst.fst.snd.fst) (r7.fst.fst.snd.snd), .int .i64 (r7.fst.snd.fst), .bool (r7.fst.snd.snd.fst)], .c (.sl (r8.fst.fst) (r8.fst.snd.fst) (r8.fst.snd.snd)), .agg [.int .i64 (4), .int .i64 (0)], .c (.sl (some (n9, 0)) (3) (3))] false [.c (.bool)] fun r10 =>
      .ite (r10.fst)
      (.load (n0, 1) (.int .i64) fun i11 =>
        .call fn_spec_Fits [.c (.int .i64 (i11))] false [.c (.bool)] fun r12 =>
        .ite (!r12.fst)
        (.done .normal [.c (.tt)])
        (.load (n0, 0) (.sl) fun s13 =>
          .load (n0, 1) (.int .i64) fun i14 =>
          .load (n0, 2) (.bool) fun b15 =>
          .load (n1, 0) (.int .i64) fun i16 =>
          .load (n1, 1) (.int .i64) fun i17 =>
          .call fn_laws_gDeleteAscend [.agg [.sl (s13.fst) (s13.snd.fst) (s13.snd.snd), .int .i64 (i14), .bool (b15)], .c (.sl (a1p) (a1l) (a1c)), .agg [.int .i64 (i16), .int .i64 (i17)], .c (.sl (a3p) (a3l) (a3c))] false [.c (.bool)] fun r18 =>
          .done .normal [.c (.bool (r18.fst))]))
      (.done .normal [.c (.ff)])) [.c (.bool)] fun x19 =>
    .done .ret [.c (.bool (x19.fst))])
theorem den_laws_FnExactGDeleteAscend (a00p : Option PA) (a00l : Nat) (a00c : Nat) (a01 : Int) (a02 : Bool) (a1p : Option PA) (a1l : Nat) (a1c : Nat) (a20 : Int) (a21 : Int) (a3p : Option PA) (a3l : Nat) (a3c : Nat) : denFn Try.prog Try.f3 [.agg [.sl a00p a00l a00c, .int .i64 a01, .bool a02], .c (.sl a1p a1l a1c), .agg [.int .i64 a20, .int .i64 a21], .c (.sl a3p a3l a3c)] = M_laws_FnExactGDeleteAscend a00p a00l a00c a01 a02 a1p a1l a1c a20 a21 a3p a3l a3c := by kernel_rfl
theorem hc_laws_FnExactGDeleteAscend (a00p : Option PA) (a00l : Nat) (a00c : Nat) (a01 : Int) (a02 : Bool) (a1p : Option PA) (a1l : Nat) (a1c : Nat) (a20 : Int) (a21 : Int) (a3p : Option PA) (a3l : Nat) (a3c : Nat) {h : H} {R : Value → H → Prop} (hw : wp Try.prog (M_laws_FnExactGDeleteAscend a00p a00l a00c a01 a02 a1p a1l a1c a20 a21 a3p a3l a3c) (Ret R) h) : HC Try.prog fn_laws_FnExactGDeleteAscend (List.map AV.val [.agg [.sl a00p a00l a00c, .int .i64 a01, .bool a02], .c (.sl a1p a1l a1c), .agg [.int .i64 a20, .int .i64 a21], .c (.sl a3p a3l a3c)]).toArray h R :=
  den_calls hmix Try.func3 (of_decide_eq_true rfl) (by rw [den_laws_FnExactGDeleteAscend]; exact hw)
def actO (a : Int) : Int := if a = 0 then 0 else if a = 1 then 1 else 2
def goA (ws : List Int) (acc : List IV) (_ : IV) : Int := match ws[acc.length]? with
  | some a => actO a
  | none => 0
theorem das_len {I : Type} (go : List I → I → Int) : ∀ (xs acc : List I), (das go acc xs).1.length ≤ acc.length + xs.length ∧ (das go acc xs).2.length ≤ xs.length
  | [], acc => by simp [das]
  | x :: xs, acc => by
    have ih := das_len go xs (acc ++ [x])
    simp only [List.length_append, List.length_singleton] at ih
    unfold das
    split
    · simp only [List.length_cons]; omega
    · split
      · simp only [List.length_cons]; omega
      · simp
def DaC (f0 f1 : PA) (ap : Option PA) (an ac : Nat) (c : Ck) (acc : List IV) : Ck := ExC (fun s : SlT => OwnL LT s acc) fun s => StC [Ow f0 [.slice (s.1.map PA.val) s.2.1 s.2.2] 0, Ow f1 [.slice (ap.map PA.val) an ac] 0, SlC s LT.sz (LT.flat acc), c]
def daF (f0 f1 : PA) : Value := .func (.func fn_impl_GDeleteAscend_1) #[] #[.pointer (some f0.val), .pointer (some f1.val)]
def daR (o : List Int) (l : List IV) (x : IV) (ws : List Int) : List IV × List IV := Fn (goA ws) (l.take (pos (ltO o) l x)) (l.drop (pos (ltO o) l x)) []
section
variable {h h0 : H} {G0 : PA → Prop} {l : List Ck}
theorem open_da {f0 f1 : PA} {ap : Option PA} {an ac : Nat} {c : Ck} {acc : List IV} (s : St h0 G0 (DaC f0 f1 ap an ac c acc :: l) h) : ∃ t : SlT, OwnL LT t acc ∧ St h0 G0 (Ow f0 [.slice (t.1.map PA.val) t.2.1 t.2.2] 0 :: Ow f1 [.slice (ap.map PA.val) an ac] 0 :: SlC t LT.sz (LT.flat acc) :: c :: l) h := by
  obtain ⟨t, ht, s⟩ := s.ex_out
  exact ⟨t, ht, s.st_out⟩
theorem shut_da {f0 f1 : PA} {ap : Option PA} {an ac : Nat} {c : Ck} {acc : List IV} {t : SlT} (ht : OwnL LT t acc) (s : St h0 G0 (Ow f0 [.slice (t.1.map PA.val) t.2.1 t.2.2] 0 :: Ow f1 [.slice (ap.map PA.val) an ac] 0 :: SlC t LT.sz (LT.flat acc) :: c :: l) h) : St h0 G0 (DaC f0 f1 ap an ac c acc :: l) h :=
  St.ex_in (α := SlT) t ht (St.st_in (m := [_, _, _, _]) s)
theorem own_of {I : Type} {L : Lay I} {d : SlT} {zs : List I} (s : St h0 G0 (SlC d L.sz (L.flat zs) :: l) h) (hn : d.2.1 = zs.length) : OwnL L d zs := by
  obtain ⟨F, ⟨h1, h2, h3⟩, _⟩ := s.fact
  refine ⟨hn, h2, ?_⟩
  rcases h3 with ⟨_, hc⟩ | ⟨p, hp, _⟩
  · left
    exact List.length_eq_zero_iff.1 (by omega)
  · right
    rw [hp]; rfl
theorem c_action {a : Int} : HT Try.prog fn_impl_action [.c (.int .i64 a)] false [.c (.int .i64)] h fun x h' => x = (actO a, ()) ∧ h' = h := by
  apply hc_impl_action
  unfold M_impl_action
  by_cases h0 : a = 0
  · exact w_true (beq_t h0) (rt_1 rfl ⟨by simp [actO, h0], rfl⟩)
  · refine w_false (beq_f h0) ?_
    by_cases h1 : a = 1
    · exact w_true (beq_t h1) (rt_1 rfl ⟨by simp [actO, h1], rfl⟩)
    · exact w_false (beq_f h1) (rt_1 rfl ⟨by simp [actO, h0, h1], rfl⟩)
theorem cba_act {f0 f1 : PA} {ap : Option PA} {an ac : Nat} {c : Ck} {ws : List Int} (ha : Rdr c (ap, an, ac) LN ws) (hal : ws.length ≤ 2147483647) : Cba Try.prog (daF f0 f1) TG.argO (DaC f0 f1 ap an ac c) (goA ws) 4294967295 := by
  refine ⟨fun acc x => ?_, fun h G acc x hl hG => ?_⟩
  · unfold goA actO
    split
    · split
      · exact .inl rfl
      · split
        · exact .inr (.inl rfl)
        · exact .inr (.inr rfl)
    · exact .inl rfl
  · refine ⟨by kernel_rfl, ?_⟩
    have e : (#[] ++ (List.map AV.val (TG.argO x)).toArray ++ #[.pointer (some f0.val), .pointer (some f1.val)] : Array Value) = (List.map AV.val [.agg [.int .i64 x.1, .int .i64 x.2], .c (.addr f0), .c (.addr f1)]).toArray := by simp [TG.argO]; exact ⟨rfl, rfl⟩
    rw [e]
    apply hc_impl_GDeleteAscend_1
    unfold M_impl_GDeleteAscend_1
    have hn : an = ws.length := ha.1
    obtain ⟨s, hs, S⟩ := open_da (St.start hG)
    have hsl : s.2.1 = acc.length := hs.1
    refine st_alloc S fun n0 _ S => ?_
    refine ld_sl S s.1 s.2.1 s.2.2 rfl (ld_int S rfl (ld_int S rfl ?_))
    refine st_alloc S fun n4 _ S => ?_
    refine st_apo (L := LT) (xs := acc) (y := x) S hs rfl rfl (S.rsl (LT.flat [x]) 1 1 2 (fun i v h => by rw [Nat.zero_add]; exact h) rfl) ⟨by omega, by omega⟩ fun s' _ hs' S => ?_
    refine st_store S (lt_ble rfl) fun _ S => ?_
    have hsl' : s'.2.1 = acc.length + 1 := by have := hs'.1; simpa using this
    refine ld_sl S s'.1 s'.2.1 s'.2.2 rfl (ld_sl S ap an ac rfl ?_)
    have S := S.only [.ow f0, .ow f1, .sl s', .ck c]
    by_cases hgt : acc.length < ws.length
    · have hx := List.getElem?_eq_getElem hgt
      obtain ⟨p, hp, hro⟩ := ha.ptr (by omega)
      dsimp only at hp
      subst hp
      have e1 : ((s'.2.1 : Int) - 1).toNat = acc.length := by omega
      refine w_false (decide_eq_false (by (first | omega | ((try dsimp only [Sh.T, Sh1.T]); omega)))) ?_
      refine ld_sl S (some p) an ac rfl (ld_sl S s'.1 s'.2.1 s'.2.2 rfl (w_guard (inK64 (by (first | omega | ((try dsimp only [Sh.T, Sh1.T]); omega))) (by (first | omega | ((try dsimp only [Sh.T, Sh1.T]); omega)))) (w_nonnil (w_guard ⟨by (first | omega | ((try dsimp only [Sh.T, Sh1.T]); omega)), by (first | omega | ((try dsimp only [Sh.T, Sh1.T]); omega))⟩ ?_))))
      dsimp only
      rw [e1]
      refine w_num (S.rdr hro) hx (w_callT c_action ?_)
      rintro _ _ ⟨rfl, rfl⟩
      refine rt_1 rfl ⟨?_, shut_da hs' S⟩
      unfold goA
      rw [hx]
    · refine w_true (decide_eq_true (by (first | omega | ((try dsimp only [Sh.T, Sh1.T]); omega)))) (rt_1 rfl ⟨?_, shut_da hs' S⟩)
      unfold goA
      rw [List.getElem?_eq_none (by omega)]
end
section
variable {h : H}
set_option maxHeartbeats 2000000 in
theorem c_specGDeleteAscend {c : Ck} {o : List Int} {op : Option PA} {on oc : Nat} (hr : Rdr c (op, on, oc) LN o) (hl : o.length ≤ 2147483647) {d : Int} {nl : Bool} {xs : List IV} {sp : Option PA} {n cap : Nat} (hx : Rdr c (sp, n, cap) LT xs) (hxl : xs.length ≤ 2147483647) {x : IV} {ws : List Int} {ap : Option PA} {an ac : Nat} (ha : Rdr c (ap, an, ac) LN ws) (hal : ws.length ≤ 2147483647) {G : PA → Prop} (hG : Star [c] h G) :
    HT Try.prog fn_spec_GDeleteAscend [.agg [.sl op on oc, .int .i64 d, .bool nl], .c (.sl sp n cap), .agg [.int .i64 x.1, .int .i64 x.2], .c (.sl ap an ac)] true [.c .sl, .c .sl] h fun r h' => ∃ post, (∃ s t : SlT, r = (s, t, ()) ∧ OwnL LT s (daR o (treeO o xs) x ws).1 ∧ OwnL LT t (daR o (treeO o xs) x ws).2 ∧ post = [c, SlC s LT.sz (LT.flat (daR o (treeO o xs) x ws).1), SlC t LT.sz (LT.flat (daR o (treeO o xs) x ws).2)]) ∧ St h G post h' := by
  apply hc_spec_GDeleteAscend
  unfold M_spec_GDeleteAscend
  have hn : an = ws.length := ha.1
  have htl := treeO_len o xs
  have hpl := pos_le (lt := ltO o) (treeO o xs) x
  refine st_alloc (St.start hG) fun n0 _ S => ?_
  refine st_alloc S fun n1 _ S => ?_
  refine ld_sl S op on oc rfl ?_
  refine st_callT S [.ck c] (fun G hG => c_Tree hr hl hx (by omega) hG) ?_
  rintro _ _ _ ⟨t0, rfl, ht0, rfl⟩ S
  dsimp only [List.cons_append, List.nil_append] at S
  refine ld_sl S op on oc rfl (ld_int S rfl (ld_int S rfl ?_))
  (have S := S.ats [.ck c, .sl t0]; refine st_callT (l := StC [c, SlC t0 LT.sz (LT.flat (treeO o xs))] :: _) (St.st_in (m := [_, _]) S) [.ck (StC [c, SlC t0 LT.sz (LT.flat (treeO o xs))])] (fun G hG => c_Place (x := x) (Rdr.st (i := 0) rfl hr) hl (Rdr.st (i := 1) rfl ht0.rdr) (by omega) hG) ?_)
  rintro _ _ _ ⟨rfl, rfl⟩ S
  dsimp only [List.cons_append, List.nil_append] at S
  have S := St.st_out S
  dsimp only [List.cons_append, List.nil_append] at S
  generalize hT : treeO o xs = T at *
  have hFF : Fn (goA ws) (T.take (pos (ltO o) T x)) (T.drop (pos (ltO o) T x)) [] = daR o T x ws := rfl
  generalize daR o T x ws = FF at *
  generalize pos (ltO o) T x = q at *
  obtain ⟨t1, t2, t3⟩ := t0
  have htn : t2 = T.length := ht0.1
  have htc : t2 ≤ t3 := ht0.2.1
  refine st_alloc S fun n8 _ S => ?_
  refine w_guard ⟨by (first | omega | ((try dsimp only [Sh.T, Sh1.T]); omega)), by (first | omega | ((try dsimp only [Sh.T, Sh1.T]); omega))⟩ ?_
  try dsimp only
  rw [Int.toNat_natCast]
  refine st_new (L := LT) (ys := T.take q) (k := q - 0) S rfl rfl (by simp; omega) (by obtain ⟨F, hF⟩ := S.fct (.sl (t1, t2, t3)); exact src_part ht0.rdr 0 q (by omega) hF) ⟨by omega, by omega⟩ fun p1 c1 _ hc1 S => ?_
  have S := S.close_sl (n := q - 0) (c := c1) (sz := LT.sz) hc1 (by rw [LT.flat_length, List.length_take, Nat.min_eq_left (by omega), Nat.sub_zero])
  have hs1 : OwnL LT (some p1, q - 0, c1) (T.take q) := ⟨by rw [List.length_take, Nat.min_eq_left (by omega)]; rfl, hc1, .inr rfl⟩
  have S := sl_nil LT S
  refine w_mid' (some 0) (fun (y : SV [.c (.int .i64), .c .sl, .c .sl]) h' => ∃ (i : Nat) (left seen : List IV) (s t : SlT), y = ((i : Int), s, t, ()) ∧ i ≤ T.length ∧ left.length ≤ i ∧ FF = (seen, left ++ T.drop i) ∧ OwnL LT s left ∧ OwnL LT t seen ∧ St h G [c, SlC (t1, t2, t3) LT.sz (LT.flat T), SlC s LT.sz (LT.flat left), SlC t LT.sz (LT.flat seen)] h') ?_ ?_
  · refine w_lp (fun r y h' => ∃ (k : Nat) (left seen : List IV) (s t : SlT), y = ((k : Int), ((q + k : Nat) : Int), s, t, ()) ∧ q + k + r = T.length ∧ seen.length = k ∧ left.length ≤ q + k ∧ Fn (goA ws) left (T.drop (q + k)) seen = FF ∧ OwnL LT s left ∧ OwnL LT t seen ∧ St h G [c, SlC (t1, t2, t3) LT.sz (LT.flat T), SlC s LT.sz (LT.flat left), SlC t LT.sz (LT.flat seen)] h') (T.length - q) rfl
      ⟨0, T.take q, [], (some p1, q - 0, c1), (none, 0, 0), rfl, by omega, rfl, by rw [List.length_take]; omega, hFF, hs1, ⟨rfl, Nat.le_refl _, .inl rfl⟩, S.only [.ck c, .sl (t1, t2, t3), .sl (some p1, q - 0, c1), .sl (none, 0, 0)]⟩ ?_
    clear S hFF hs1
    rintro r _ _ ⟨k, left, seen, s, t, rfl, hk, hsk, hll, hfn, hs, ht, S⟩
    by_cases hlt : q + k < T.length
    · have hxi := List.getElem?_eq_getElem hlt
      obtain ⟨p, hp, hrd⟩ := ht0.rdr.ptr (show 0 < T.length by omega)
      dsimp only at hp
      subst hp
      have hdr : T.drop (q + k) = T[q + k] :: T.drop (q + k + 1) := List.drop_eq_getElem_cons hlt
      obtain ⟨s1, s2, s3⟩ := s
      obtain ⟨u1, u2, u3⟩ := t
      refine w_true (lt_t (by (first | omega | ((try dsimp only [Sh.T, Sh1.T]); omega)))) (w_nonnil (w_guard ⟨by (first | omega | ((try dsimp only [Sh.T, Sh1.T]); omega)), by (first | omega | ((try dsimp only [Sh.T, Sh1.T]); omega))⟩ ?_))
      dsimp only
      rw [Int.toNat_natCast]
      refine w_item (S.rdr hrd) hxi ?_
      refine st_alloc S fun n14 _ S => ?_
      refine st_apo (L := LT) (xs := seen) (y := T[q + k]) S ht rfl rfl (S.rsl (LT.flat [T[q + k]]) 1 1 2 (fun i v h => by rw [Nat.zero_add]; exact h) rfl) ⟨by omega, by omega⟩ fun t' _ ht' S => ?_
      have S := S.only [.ck c, .sl (some p, t2, t3), .sl (s1, s2, s3), .sl t']
      rw [hdr] at hfn
      by_cases hka : k < ws.length
      · have hxa := List.getElem?_eq_getElem hka
        have hgo : goA ws seen T[q + k] = actO ws[k] := by unfold goA; rw [hsk, hxa]
        obtain ⟨pa, hpa, hro⟩ := ha.ptr (by omega)
        dsimp only at hpa
        subst hpa
        refine w_bnd (w_false (decide_eq_false (by (first | omega | ((try dsimp only [Sh.T, Sh1.T]); omega)))) (w_nonnil (w_guard ⟨by (first | omega | ((try dsimp only [Sh.T, Sh1.T]); omega)), by (first | omega | ((try dsimp only [Sh.T, Sh1.T]); omega))⟩ ?_)))
        try dsimp only
        rw [Int.toNat_natCast]
        refine w_num (S.rdr hro) hxa (bd_n rfl ?_)
        by_cases h0 : ws[k] = 0
        · refine w_true (beq_t h0) (ln_e (md_e rfl ⟨q + k, left, _, (s1, s2, s3), t', rfl, by omega, hll, ?_, hs, ht', S⟩))
          rw [das_stop (by rw [hgo]; simp [actO, h0]) (by rw [hgo]; simp [actO, h0])] at hfn
          rw [← hfn, hdr]
        refine w_false (beq_f h0) (w_nonnil (w_guard ⟨by (first | omega | ((try dsimp only [Sh.T, Sh1.T]); omega)), by (first | omega | ((try dsimp only [Sh.T, Sh1.T]); omega))⟩ ?_))
        try dsimp only
        refine w_num (S.rdr hro) hxa ?_
        by_cases h1 : ws[k] = 1
        · refine w_bnd (w_true (beq_t h1) (w_nonnil (w_guard ⟨by (first | omega | ((try dsimp only [Sh.T, Sh1.T]); omega)), by (first | omega | ((try dsimp only [Sh.T, Sh1.T]); omega))⟩ ?_)))
          try dsimp only
          refine w_item (S.rdr hrd) hxi ?_
          refine st_alloc S fun n24 _ S => ?_
          refine st_apo (L := LT) (xs := left) (y := T[q + k]) S hs rfl rfl (S.rsl (LT.flat [T[q + k]]) 1 1 2 (fun i v h => by rw [Nat.zero_add]; exact h) rfl) ⟨by omega, by omega⟩ fun s' _ hs' S => ?_
          refine bd_n rfl (w_guard (inK64 (by (first | omega | ((try dsimp only [Sh.T, Sh1.T]); omega))) (by (first | omega | ((try dsimp only [Sh.T, Sh1.T]); omega)))) (w_guard (inK64 (by (first | omega | ((try dsimp only [Sh.T, Sh1.T]); omega))) (by (first | omega | ((try dsimp only [Sh.T, Sh1.T]); omega)))) ?_))
          rw [das_keep (by rw [hgo]; simp [actO, h1])] at hfn
          refine ln_n rfl (r - 1) ⟨k + 1, _, _, s', t', rfl, by omega, by simp [hsk], by simp; omega, hfn, hs', ht', S.only [.ck c, .sl (some p, t2, t3), .sl s', .sl t']⟩ (by omega)
        · refine w_bnd (w_false (beq_f h1) (bd_n rfl (w_guard (inK64 (by (first | omega | ((try dsimp only [Sh.T, Sh1.T]); omega))) (by (first | omega | ((try dsimp only [Sh.T, Sh1.T]); omega)))) (w_guard (inK64 (by (first | omega | ((try dsimp only [Sh.T, Sh1.T]); omega))) (by (first | omega | ((try dsimp only [Sh.T, Sh1.T]); omega)))) ?_))))
          rw [das_del (by rw [hgo]; simp [actO, h0, h1])] at hfn
          refine ln_n rfl (r - 1) ⟨k + 1, _, _, (s1, s2, s3), t', rfl, by omega, by simp [hsk], by omega, hfn, hs, ht', S⟩ (by omega)
      · have hgo : goA ws seen T[q + k] = 0 := by unfold goA; rw [hsk, List.getElem?_eq_none (by omega)]
        refine w_bnd (w_true (decide_eq_true (by (first | omega | ((try dsimp only [Sh.T, Sh1.T]); omega)))) (bd_n rfl (w_true rfl (ln_e (md_e rfl ⟨q + k, left, _, (s1, s2, s3), t', rfl, by omega, hll, ?_, hs, ht', S⟩)))))
        rw [das_stop (by rw [hgo]; decide) (by rw [hgo]; decide)] at hfn
        rw [← hfn, hdr]
    · rw [List.drop_eq_nil_of_le (by omega), das_nil] at hfn
      refine w_false (lt_f (by (first | omega | ((try dsimp only [Sh.T, Sh1.T]); omega)))) (ln_e (md_e rfl ⟨q + k, left, seen, s, t, rfl, by omega, hll, ?_, hs, ht, S⟩))
      rw [← hfn, List.drop_eq_nil_of_le (by omega), List.append_nil]
  · clear S hFF hs1
    rintro _ h5 ⟨i, left, seen, s, t, rfl, hi, hll, rfl, hs, ht, S⟩
    refine w_guard ⟨by (first | omega | ((try dsimp only [Sh.T, Sh1.T]); omega)), by (first | omega | ((try dsimp only [Sh.T, Sh1.T]); omega))⟩ ?_
    try dsimp only
    rw [Int.toNat_natCast]
    have hrs : RSl h5 (slBase t1 t3 i 2, t2 - i, t3 - i) LT.sz (LT.flat (T.drop i)) := by
      obtain ⟨F, hF⟩ := S.fct (.sl (t1, t2, t3))
      have := src_part ht0.rdr i (t2 - i) (by omega) hF
      rw [List.take_of_length_le (by simp; omega)] at this
      exact this
    refine st_aps (L := LT) (xs := left) (ys := T.drop i) S rfl rfl hs.1 (by simp; omega) hrs ⟨by simp; omega, by simp; omega⟩ fun s' _ hsl S => ?_
    have hs' := own_of S (by rw [hsl]; simp)
    exact rt_n rfl rfl ⟨_, ⟨t, s', rfl, ht, hs', rfl⟩, S.only [.ck c, .sl t, .sl s']⟩
theorem daR_len (o : List Int) (l : List IV) (x : IV) (ws : List Int) : (daR o l x ws).1.length ≤ l.length ∧ (daR o l x ws).2.length ≤ l.length := by
  have h1 := das_len (goA ws) (l.drop (pos (ltO o) l x)) []
  have h2 := pos_le (lt := ltO o) l x
  unfold daR Fn
  simp only [List.length_drop, List.length_nil, List.length_append, List.length_take] at h1 ⊢
  omega
set_option maxHeartbeats 2000000 in
theorem c_GDeleteAscendI {c : Ck} {o : List Int} {op : Option PA} {on oc : Nat} (hr : Rdr c (op, on, oc) LN o) (hl : o.length ≤ 2147483647) {d : Int} {nl : Bool} (hd : d ≤ 128) {xs : List IV} {sp : Option PA} {n cap : Nat} (hx : Rdr c (sp, n, cap) LT xs) (hxl : xs.length ≤ 2147483647) {x : IV} {ws : List Int} {ap : Option PA} {an ac : Nat} (ha : Rdr c (ap, an, ac) LN ws) (hal : ws.length ≤ 2147483647) {G : PA → Prop} (hG : Star [c] h G) :
    HT Try.prog fn_impl_GDeleteAscend [.agg [.sl op on oc, .int .i64 d, .bool nl], .c (.sl sp n cap), .agg [.int .i64 x.1, .int .i64 x.2], .c (.sl ap an ac)] true [.c .sl, .c .sl] h fun r h' => ∃ post, (∃ s t : SlT, r = (s, t, ()) ∧ OwnL LT s (daR o (treeO o xs) x ws).1 ∧ OwnL LT t (daR o (treeO o xs) x ws).2 ∧ post = [c, SlC s LT.sz (LT.flat (daR o (treeO o xs) x ws).1), SlC t LT.sz (LT.flat (daR o (treeO o xs) x ws).2)]) ∧ St h G post h' := by
  apply hc_impl_GDeleteAscend
  unfold M_impl_GDeleteAscend
  have htl := treeO_len o xs
  obtain ⟨hl1, hl2⟩ := daR_len o (treeO o xs) x ws
  refine st_alloc (St.start hG) fun n0 _ S => ?_
  refine st_alloc S fun n1 _ S => ?_
  refine st_alloc S fun n2 _ S => ?_
  (refine ld_sl S op on oc rfl (ld_int S rfl (ld_bool S rfl ?_)))
  (refine st_callT S [.ck c] (fun G hG => c_grow hr hl hd hx hxl hG) ?_; rintro _ _ _ ⟨m, f, rfl, rfl⟩ S; dsimp only [List.cons_append, List.nil_append] at S)
  refine st_alloc S fun n7 _ S => ?_
  refine ld_int S rfl (ld_int S rfl ?_)
  have S := sl_nil LT S
  have S := shut_da (f0 := (n7, 0)) (f1 := (n2, 0)) (ap := ap) (an := an) (ac := ac) (acc := []) (t := (none, 0, 0)) ⟨rfl, Nat.le_refl _, .inl rfl⟩ (S.ats [.ow (n7, 0), .ow (n2, 0), .sl (none, 0, 0), .ck c])
  refine st_callB S [.ck (DaC (n7, 0) (n2, 0) ap an ac c []), .mp (m, 0)] (fun G hG hb => HT.re (args' := [.c (.addr (m, 0)), .agg [.int .i64 x.1, .int .i64 x.2], .c (.raw (daF (n7, 0) (n2, 0)))]) rfl <| TG.c_DeleteAscend (x := x) (lss_before hl) (cba_act ha hal) (by omega) (by simp; omega) (hb (OcC f o) (by simp)) hG) ?_
  rintro _ _ _ rfl S
  dsimp only [List.cons_append, List.nil_append] at S
  have e : Fn (goA ws) ((treeO o xs).take (pos (ltO o) (treeO o xs) x)) ((treeO o xs).drop (pos (ltO o) (treeO o xs) x)) [] = daR o (treeO o xs) x ws := rfl
  rw [e] at S
  obtain ⟨s, hs, S⟩ := open_da S
  refine ld_sl S s.1 s.2.1 s.2.2 rfl ?_
  refine st_callV S [.mp (m, 0)] (args' := [.c (.addr (m, 0))]) rfl (fun G hG => c_Items (by omega) hG) ?_
  rintro _ _ _ ⟨t, rfl, ht, rfl⟩ S
  dsimp only [List.cons_append, List.nil_append] at S
  refine st_held S rfl ?_
  exact rt_n rfl rfl ⟨_, ⟨s, t, rfl, hs, ht, rfl⟩, S.only [.ck c, .sl s, .sl t]⟩
theorem c_gDeleteAscend {c : Ck} {o : List Int} {op : Option PA} {on oc : Nat} (hr : Rdr c (op, on, oc) LN o) (hl : o.length ≤ 2147483647) {d : Int} {nl : Bool} (hd : d ≤ 128) {xs : List IV} {sp : Option PA} {n cap : Nat} (hx : Rdr c (sp, n, cap) LT xs) (hxl : xs.length ≤ 2147483647) {x : IV} {ws : List Int} {ap : Option PA} {an ac : Nat} (ha : Rdr c (ap, an, ac) LN ws) (hal : ws.length ≤ 2147483647) {G : PA → Prop} (hG : Star [c] h G) :
    HT Try.prog fn_laws_gDeleteAscend [.agg [.sl op on oc, .int .i64 d, .bool nl], .c (.sl sp n cap), .agg [.int .i64 x.1, .int .i64 x.2], .c (.sl ap an ac)] false [.c .bool] h fun r h' => ∃ post, (r = (true, ()) ∧ post = [c]) ∧ St h G post h' := by
  apply hc_laws_gDeleteAscend
  unfold M_laws_gDeleteAscend
  have htl := treeO_len o xs
  obtain ⟨hl1, hl2⟩ := daR_len o (treeO o xs) x ws
  refine st_alloc (St.start hG) fun n0 _ S => ?_
  refine st_alloc S fun n1 _ S => ?_
  (refine ld_sl S op on oc rfl (ld_int S rfl (ld_bool S rfl ?_)))
  refine ld_int S rfl (ld_int S rfl ?_)
  refine st_callT S [.ck c] (fun G hG => c_GDeleteAscendI (x := x) hr hl hd hx hxl ha hal hG) ?_
  rintro _ _ _ ⟨s, t, rfl, hs, ht, rfl⟩ S
  dsimp only [List.cons_append, List.nil_append] at S
  (refine ld_sl S op on oc rfl (ld_int S rfl (ld_bool S rfl ?_)))
  refine ld_int S rfl (ld_int S rfl ?_)
  refine st_callT S [.ck c] (fun G hG => c_specGDeleteAscend (x := x) hr hl hx hxl ha hal hG) ?_
  rintro _ _ _ ⟨s2, t2, rfl, hs2, ht2, rfl⟩ S
  dsimp only [List.cons_append, List.nil_append] at S
  refine w_mid' none (fun (y : SV [.c .bool]) h' => y = (true, ()) ∧ St h G [c] h') ?_ (fun _ _ ⟨e, S⟩ => by subst e; exact rt_1 rfl ⟨_, ⟨rfl, rfl⟩, S⟩)
  refine st_eqT S (.sl s) (.sl s2) hs.rdr hs2.rdr (by omega) fun _ S => ?_
  refine w_true (by simp) ?_
  refine st_eqT S (.sl t) (.sl t2) ht.rdr ht2.rdr (by omega) fun _ S => ?_
  exact md_n rfl ⟨by simp, S.only [.ck c]⟩
set_option maxHeartbeats 1000000 in
theorem c_FnExactGDeleteAscend {hI : H} {o : List Int} {op : Option PA} {on oc : Nat} (hr : Rdr (BaC hI) (op, on, oc) LN o) {d : Int} {nl : Bool} {xs : List IV} {sp : Option PA} {n cap : Nat} (hx : Rdr (BaC hI) (sp, n, cap) LT xs) {x : IV} {ws : List Int} {ap : Option PA} {an ac : Nat} (ha : Rdr (BaC hI) (ap, an, ac) LN ws) {G : PA → Prop} (hG : Star [BaC hI] h G) :
    HT Try.prog fn_laws_FnExactGDeleteAscend [.agg [.sl op on oc, .int .i64 d, .bool nl], .c (.sl sp n cap), .agg [.int .i64 x.1, .int .i64 x.2], .c (.sl ap an ac)] false [.c .bool] h fun r h' => ∃ post, (r = (true, ()) ∧ post = [BaC hI]) ∧ St h G post h' := by
  apply hc_laws_FnExactGDeleteAscend
  unfold M_laws_FnExactGDeleteAscend
  have hno : on = o.length := hr.1
  have hn : n = xs.length := hx.1
  refine st_alloc (St.start hG) fun n0 _ S => ?_
  refine st_alloc S fun n1 _ S => ?_
  refine w_mid' none (fun (y : SV [.c .bool]) h' => (y = (true, ()) ∨ y = (false, ()) ∧ on ≤ 2147483647 ∧ n ≤ 2147483647 ∧ an ≤ 2147483647) ∧ St h G [Ow (n0, 0) (List.map Cell.val [.sl op on oc, .int .i64 d, .bool nl]) 0, Ow (n1, 0) (LT.cells x) 0, BaC hI] h') ?_ ?_
  · refine ld_sl S op on oc rfl (ld_int S rfl (ld_bool S rfl ?_))
    refine st_callT S [] (fun G hG => c_zzFits1 hG) ?_
    rintro _ _ _ ⟨rfl, rfl⟩ S
    dsimp only [List.cons_append, List.nil_append] at S
    by_cases hbo : on > 2147483647
    · exact w_true (by rw [decide_eq_false (by (first | omega | ((try dsimp only [Sh.T, Sh1.T]); omega)))]; rfl) (md_n rfl ⟨.inl rfl, S.only [.ow (n0, 0), .ow (n1, 0), .ck (BaC hI)]⟩)
    refine w_false (by rw [decide_eq_true (by (first | omega | ((try dsimp only [Sh.T, Sh1.T]); omega)))]; rfl) ?_
    by_cases hb0 : n > 2147483647
    · exact w_true (decide_eq_true (by omega)) (md_n rfl ⟨.inl rfl, S.only [.ow (n0, 0), .ow (n1, 0), .ck (BaC hI)]⟩)
    refine w_false (decide_eq_false (by omega)) ?_
    by_cases hb1 : an > 2147483647
    · exact md_n (x := (true, ())) (by rw [decide_eq_true (by omega)]; rfl) ⟨.inl rfl, S.only [.ow (n0, 0), .ow (n1, 0), .ck (BaC hI)]⟩
    exact md_n (x := (false, ())) (by rw [decide_eq_false (by omega)]; rfl) ⟨.inr ⟨rfl, by omega, by omega, by omega⟩, S.only [.ow (n0, 0), .ow (n1, 0), .ck (BaC hI)]⟩
  rintro _ _ ⟨rfl | ⟨rfl, hz0, hz1, hz2⟩, S⟩
  · exact w_true rfl (rt_1 rfl ⟨_, ⟨rfl, rfl⟩, S.only [.ck (BaC hI)]⟩)
  refine w_false rfl ?_
  refine w_mid' none (fun (y : SV [.c .bool]) h' => y = (true, ()) ∧ St h G [BaC hI] h') ?_ (fun _ _ ⟨e, S⟩ => by subst e; exact rt_1 rfl ⟨_, ⟨rfl, rfl⟩, S⟩)
  refine st_callT S [] (fun G hG => c_exMake hG) ?_
  rintro _ _ _ ⟨rfl, rfl⟩ S
  dsimp only [List.cons_append, List.nil_append] at S
  refine st_callT S [] (fun G hG => c_exItems hG) ?_
  rintro _ _ _ ⟨ne, rfl, rfl⟩ S
  dsimp only [List.cons_append, List.nil_append] at S
  (refine st_alloc S fun nk _ S => ?_; have S : St h G [Ow (ne, 0) (LT.flat exI) 0, Ow (nk, 0) (LN.flat [2, 1, 2]) 0, _, _, _] _ := S.ats [.ow (ne, 0), .ow (nk, 0)])
  refine st_callT (l := StC [Ow (ne, 0) (LT.flat exI) 0, Ow (nk, 0) (LN.flat [2, 1, 2]) 0] :: _) (St.st_in (m := [_, _]) S) [.ck (StC [Ow (ne, 0) (LT.flat exI) 0, Ow (nk, 0) (LN.flat [2, 1, 2]) 0])] (fun G hG => c_gDeleteAscend (o := []) (x := (4, 0)) Rdr.nil (by decide) (by decide) (Rdr.st (i := 0) rfl (Rdr.ow (xs := exI) rfl)) (by decide) (Rdr.st (i := 1) rfl (Rdr.ow (xs := [2, 1, 2]) rfl)) (by decide) hG) ?_
  rintro _ _ _ ⟨rfl, rfl⟩ S
  dsimp only [List.cons_append, List.nil_append] at S
  refine w_true rfl (ld_int S rfl ?_)
  refine w_callT c_Fits ?_
  rintro _ _ ⟨rfl, rfl⟩
  by_cases hf : d = 0 ∨ 2 ≤ d ∧ d ≤ 128
  · refine w_false (by rw [decide_eq_true hf]; rfl) ?_
    refine ld_sl S op on oc rfl (ld_int S rfl (ld_bool S rfl ?_))
    refine ld_int S rfl (ld_int S rfl ?_)
    refine st_callT S [.ck (BaC hI)] (fun G hG => c_gDeleteAscend (x := x) hr (by omega) (by omega) hx (by omega) ha (by have := ha.1; dsimp only at this; omega) hG) ?_
    rintro _ _ _ ⟨rfl, rfl⟩ S
    dsimp only [List.cons_append, List.nil_append] at S
    exact md_n rfl ⟨rfl, S.only [.ck (BaC hI)]⟩
  · exact w_true (by rw [decide_eq_false hf]; rfl) (md_n rfl ⟨rfl, S.only [.ck (BaC hI)]⟩)
end
end Go.Proofs.Ytegnpimlfphncaa
