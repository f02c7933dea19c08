/-
  Functions of the translation as typed programs, and that each is its function's reading. Written by a program of ours (gen2.py). Conditions: none.
-/
import Derived.Test.YtkhpbcckaenmcaaNm
namespace Go.Proofs.Ytkhpbcckaenmcaa
open Go
set_option maxRecDepth 100000
set_option linter.unusedVariables false

def M_mi_Ascend (a0 : PA) (a1 : Int) (a2 : Value) : M :=
  .call fn_mi_ascend [.c (.addr a0), .c (.int .i64 (a1)), .c (.raw (a2)), .c (.ff)] true [] fun r0 =>
  .done .ret []

theorem den_mi_Ascend (a0 : PA) (a1 : Int) (a2 : Value) : denFn Try.prog Try.f87 [.c (.addr a0), .c (.int .i64 a1), .c (.raw a2)] = M_mi_Ascend a0 a1 a2 := by kernel_rfl
theorem hc_mi_Ascend (a0 : PA) (a1 : Int) (a2 : Value) {h : H} {R : Value → H → Prop} (hw : wp Try.prog (M_mi_Ascend a0 a1 a2) (Ret R) h) : HC Try.prog fn_mi_Ascend (List.map AV.val [.c (.addr a0), .c (.int .i64 a1), .c (.raw a2)]).toArray h R :=
  den_calls hmix Try.func87 (of_decide_eq_true rfl) (by rw [den_mi_Ascend]; exact hw)

def M_mi_Get (a0 : PA) (a1 : Int) : M :=
  .call fn_mi_get [.c (.addr a0), .c (.int .i64 (a1)), .c (.ff)] true [.c (.int .i64), .c (.bool)] fun r0 =>
  .done .ret [.c (.int .i64 (r0.fst)), .c (.bool (r0.snd.fst))]

theorem den_mi_Get (a0 : PA) (a1 : Int) : denFn Try.prog Try.f68 [.c (.addr a0), .c (.int .i64 a1)] = M_mi_Get a0 a1 := by kernel_rfl
theorem hc_mi_Get (a0 : PA) (a1 : Int) {h : H} {R : Value → H → Prop} (hw : wp Try.prog (M_mi_Get a0 a1) (Ret R) h) : HC Try.prog fn_mi_Get (List.map AV.val [.c (.addr a0), .c (.int .i64 a1)]).toArray h R :=
  den_calls hmix Try.func68 (of_decide_eq_true rfl) (by rw [den_mi_Get]; exact hw)

def M_mi_GetMut (a0 : PA) (a1 : Int) : M :=
  .call fn_mi_get [.c (.addr a0), .c (.int .i64 (a1)), .c (.tt)] true [.c (.int .i64), .c (.bool)] fun r0 =>
  .done .ret [.c (.int .i64 (r0.fst)), .c (.bool (r0.snd.fst))]

theorem den_mi_GetMut (a0 : PA) (a1 : Int) : denFn Try.prog Try.f79 [.c (.addr a0), .c (.int .i64 a1)] = M_mi_GetMut a0 a1 := by kernel_rfl
theorem hc_mi_GetMut (a0 : PA) (a1 : Int) {h : H} {R : Value → H → Prop} (hw : wp Try.prog (M_mi_GetMut a0 a1) (Ret R) h) : HC Try.prog fn_mi_GetMut (List.map AV.val [.c (.addr a0), .c (.int .i64 a1)]).toArray h R :=
  den_calls hmix Try.func79 (of_decide_eq_true rfl) (by rw [den_mi_GetMut]; exact hw)

def M_mi_KeyValues (a0 : PA) : M :=
  .call fn_mi_keyValues [.c (.addr a0), .c (.ff)] true [.c (.sl), .c (.sl)] fun r0 =>
  .done .ret [.c (.sl (r0.fst.fst) (r0.fst.snd.fst) (r0.fst.snd.snd)), .c (.sl (r0.snd.fst.fst) (r0.snd.fst.snd.fst) (r0.snd.fst.snd.snd))]

theorem den_mi_KeyValues (a0 : PA) : denFn Try.prog Try.f67 [.c (.addr a0)] = M_mi_KeyValues a0 := by kernel_rfl
theorem hc_mi_KeyValues (a0 : PA) {h : H} {R : Value → H → Prop} (hw : wp Try.prog (M_mi_KeyValues a0) (Ret R) h) : HC Try.prog fn_mi_KeyValues (List.map AV.val [.c (.addr a0)]).toArray h R :=
  den_calls hmix Try.func67 (of_decide_eq_true rfl) (by rw [den_mi_KeyValues]; exact hw)

def M_mi_Keys (a0 : PA) : M :=
  .call fn_mi_Len [.c (.addr a0)] false [.c (.int .i64)] fun r0 =>
  .make ty_int 1 8 [.int .i64 (0)] (0) (r0.fst) fun s1 =>
  .load (a0.fst, a0.snd + 2) (.ptr) fun q2 =>
  .bind none (.ite (!Option.isNone q2)
    (.load (a0.fst, a0.snd + 2) (.ptr) fun q3 =>
      .call fn_ni_keys [.c (.ptr (q3)), .c (.sl (s1.fst) (s1.snd.fst) (s1.snd.snd))] false [.c (.sl)] fun r4 =>
      .done .normal [.c (.sl (r4.fst.fst) (r4.fst.snd.fst) (r4.fst.snd.snd))])
    (.done .normal [.c (.sl (s1.fst) (s1.snd.fst) (s1.snd.snd))])) [.c (.sl)] fun x5 =>
  .done .ret [.c (.sl (x5.fst.fst) (x5.fst.snd.fst) (x5.fst.snd.snd))]

theorem den_mi_Keys (a0 : PA) : denFn Try.prog Try.f55 [.c (.addr a0)] = M_mi_Keys a0 := by kernel_rfl
theorem hc_mi_Keys (a0 : PA) {h : H} {R : Value → H → Prop} (hw : wp Try.prog (M_mi_Keys a0) (Ret R) h) : HC Try.prog fn_mi_Keys (List.map AV.val [.c (.addr a0)]).toArray h R :=
  den_calls hmix Try.func55 (of_decide_eq_true rfl) (by rw [den_mi_Keys]; exact hw)

def M_mi_Len (a0 : PA) : M :=
  .load (a0.fst, a0.snd + 3) (.int .i64) fun i0 =>
  .done .ret [.c (.int .i64 (i0))]

theorem den_mi_Len (a0 : PA) : denFn Try.prog Try.f84 [.c (.addr a0)] = M_mi_Len a0 := by kernel_rfl
theorem hc_mi_Len (a0 : PA) {h : H} {R : Value → H → Prop} (hw : wp Try.prog (M_mi_Len a0) (Ret R) h) : HC Try.prog fn_mi_Len (List.map AV.val [.c (.addr a0)]).toArray h R :=
  den_calls hmix Try.func84 (of_decide_eq_true rfl) (by rw [den_mi_Len]; exact hw)

def M_mi_MaxMut (a0 : PA) : M :=
  .call fn_mi_maxMut [.c (.addr a0), .c (.tt)] true [.c (.int .i64), .c (.int .i64), .c (.bool)] fun r0 =>
  .done .ret [.c (.int .i64 (r0.fst)), .c (.int .i64 (r0.snd.fst)), .c (.bool (r0.snd.snd.fst))]

theorem den_mi_MaxMut (a0 : PA) : denFn Try.prog Try.f76 [.c (.addr a0)] = M_mi_MaxMut a0 := by kernel_rfl
theorem hc_mi_MaxMut (a0 : PA) {h : H} {R : Value → H → Prop} (hw : wp Try.prog (M_mi_MaxMut a0) (Ret R) h) : HC Try.prog fn_mi_MaxMut (List.map AV.val [.c (.addr a0)]).toArray h R :=
  den_calls hmix Try.func76 (of_decide_eq_true rfl) (by rw [den_mi_MaxMut]; exact hw)

def M_mi_Scan (a0 : PA) (a1 : Value) : M :=
  .call fn_mi_scan [.c (.addr a0), .c (.raw (a1)), .c (.ff)] true [] fun r0 =>
  .done .ret []

theorem den_mi_Scan (a0 : PA) (a1 : Value) : denFn Try.prog Try.f70 [.c (.addr a0), .c (.raw a1)] = M_mi_Scan a0 a1 := by kernel_rfl
theorem hc_mi_Scan (a0 : PA) (a1 : Value) {h : H} {R : Value → H → Prop} (hw : wp Try.prog (M_mi_Scan a0 a1) (Ret R) h) : HC Try.prog fn_mi_Scan (List.map AV.val [.c (.addr a0), .c (.raw a1)]).toArray h R :=
  den_calls hmix Try.func70 (of_decide_eq_true rfl) (by rw [den_mi_Scan]; exact hw)

def M_mi_Values (a0 : PA) : M :=
  .call fn_mi_values [.c (.addr a0), .c (.ff)] false [.c (.sl)] fun r0 =>
  .done .ret [.c (.sl (r0.fst.fst) (r0.fst.snd.fst) (r0.fst.snd.snd))]

theorem den_mi_Values (a0 : PA) : denFn Try.prog Try.f56 [.c (.addr a0)] = M_mi_Values a0 := by kernel_rfl
theorem hc_mi_Values (a0 : PA) {h : H} {R : Value → H → Prop} (hw : wp Try.prog (M_mi_Values a0) (Ret R) h) : HC Try.prog fn_mi_Values (List.map AV.val [.c (.addr a0)]).toArray h R :=
  den_calls hmix Try.func56 (of_decide_eq_true rfl) (by rw [den_mi_Values]; exact hw)

def M_mi_ascend (a0 : PA) (a1 : Int) (a2 : Value) (a3 : Bool) : M :=
  .load (a0.fst, a0.snd + 2) (.ptr) fun q0 =>
  .ite (Option.isNone q0)
  (.done .ret [])
  (.call fn_mi_nodeAscend [.c (.addr a0), .c (.addr (a0.fst, a0.snd + 2)), .c (.int .i64 (a1)), .c (.raw (a2)), .c (.bool (a3))] false [.c (.bool)] fun r1 =>
    .done .ret [])

theorem den_mi_ascend (a0 : PA) (a1 : Int) (a2 : Value) (a3 : Bool) : denFn Try.prog Try.f109 [.c (.addr a0), .c (.int .i64 a1), .c (.raw a2), .c (.bool a3)] = M_mi_ascend a0 a1 a2 a3 := by kernel_rfl
theorem hc_mi_ascend (a0 : PA) (a1 : Int) (a2 : Value) (a3 : Bool) {h : H} {R : Value → H → Prop} (hw : wp Try.prog (M_mi_ascend a0 a1 a2 a3) (Ret R) h) : HC Try.prog fn_mi_ascend (List.map AV.val [.c (.addr a0), .c (.int .i64 a1), .c (.raw a2), .c (.bool a3)]).toArray h R :=
  den_calls hmix Try.func109 (of_decide_eq_true rfl) (by rw [den_mi_ascend]; exact hw)

def M_mi_get (a0 : PA) (a1 : Int) (a2 : Bool) : M :=
  .load (a0.fst, a0.snd + 2) (.ptr) fun q0 =>
  .ite (Option.isNone q0)
  (.load (a0.fst, a0.snd + 4) (.int .i64) fun i1 =>
    .done .ret [.c (.int .i64 (i1)), .c (.ff)])
  (.call fn_mi_isoLoad [.c (.addr a0), .c (.addr (a0.fst, a0.snd + 2)), .c (.bool (a2))] false [.c (.ptr)] fun r2 =>
    .loop [.c (.ptr)] [.c (.ptr (r2.fst))] fun y3 =>
      .call fn_mi_search [.c (.addr a0), .c (.ptr (y3.fst)), .c (.int .i64 (a1))] true [.c (.int .i64), .c (.bool)] fun r4 =>
      .ite (r4.snd.fst)
      (.nonnil (y3.fst) fun p5 =>
        .load (p5.fst, p5.snd + 2) (.sl) fun s6 =>
        .nonnil (s6.fst) fun p7 =>
        .guard (((0 : Int) ≤ r4.fst) ∧ ((r4.fst : Int) < (↑s6.snd.fst : Int))) <|
        .load (p7.fst, p7.snd + mulN (Int.toNat r4.fst) 2) (.int .i64) fun i8 =>
        .done .ret [.c (.int .i64 (i8)), .c (.tt)])
      (.call fn_ni_leaf [.c (.ptr (y3.fst))] false [.c (.bool)] fun r9 =>
        .ite (r9.fst)
        (.load (a0.fst, a0.snd + 4) (.int .i64) fun i10 =>
          .done .ret [.c (.int .i64 (i10)), .c (.ff)])
        (.nonnil (y3.fst) fun p11 =>
          .load (p11.fst, p11.snd + 3) (.ptr) fun q12 =>
          .nonnil (q12) fun p13 =>
          .load p13 (.sl) fun s14 =>
          .nonnil (s14.fst) fun p15 =>
          .guard (((0 : Int) ≤ r4.fst) ∧ ((r4.fst : Int) < (↑s14.snd.fst : Int))) <|
          .call fn_mi_isoLoad [.c (.addr a0), .c (.addr (p15.fst, p15.snd + Int.toNat r4.fst)), .c (.bool (a2))] false [.c (.ptr)] fun r16 =>
          .done .normal [.c (.ptr (r16.fst))])))

theorem den_mi_get (a0 : PA) (a1 : Int) (a2 : Bool) : denFn Try.prog Try.f96 [.c (.addr a0), .c (.int .i64 a1), .c (.bool a2)] = M_mi_get a0 a1 a2 := by kernel_rfl
theorem hc_mi_get (a0 : PA) (a1 : Int) (a2 : Bool) {h : H} {R : Value → H → Prop} (hw : wp Try.prog (M_mi_get a0 a1 a2) (Ret R) h) : HC Try.prog fn_mi_get (List.map AV.val [.c (.addr a0), .c (.int .i64 a1), .c (.bool a2)]).toArray h R :=
  den_calls hmix Try.func96 (of_decide_eq_true rfl) (by rw [den_mi_get]; exact hw)

def M_mi_keyValues (a0 : PA) (a1 : Bool) : M :=
  .call fn_mi_Len [.c (.addr a0)] false [.c (.int .i64)] fun r0 =>
  .make ty_int 1 8 [.int .i64 (0)] (0) (r0.fst) fun s1 =>
  .call fn_mi_Len [.c (.addr a0)] false [.c (.int .i64)] fun r2 =>
  .make ty_int 1 8 [.int .i64 (0)] (0) (r2.fst) fun s3 =>
  .load (a0.fst, a0.snd + 2) (.ptr) fun q4 =>
  .bind none (.ite (!Option.isNone q4)
    (.call fn_mi_nodeKeyValues [.c (.addr a0), .c (.addr (a0.fst, a0.snd + 2)), .c (.sl (s1.fst) (s1.snd.fst) (s1.snd.snd)), .c (.sl (s3.fst) (s3.snd.fst) (s3.snd.snd)), .c (.bool (a1))] true [.c (.sl), .c (.sl)] fun r5 =>
      .done .normal [.c (.sl (r5.snd.fst.fst) (r5.snd.fst.snd.fst) (r5.snd.fst.snd.snd)), .c (.sl (r5.fst.fst) (r5.fst.snd.fst) (r5.fst.snd.snd))])
    (.done .normal [.c (.sl (s3.fst) (s3.snd.fst) (s3.snd.snd)), .c (.sl (s1.fst) (s1.snd.fst) (s1.snd.snd))])) [.c (.sl), .c (.sl)] fun x6 =>
  .done .ret [.c (.sl (x6.snd.fst.fst) (x6.snd.fst.snd.fst) (x6.snd.fst.snd.snd)), .c (.sl (x6.fst.fst) (x6.fst.snd.fst) (x6.fst.snd.snd))]

theorem den_mi_keyValues (a0 : PA) (a1 : Bool) : denFn Try.prog Try.f95 [.c (.addr a0), .c (.bool a1)] = M_mi_keyValues a0 a1 := by kernel_rfl
theorem hc_mi_keyValues (a0 : PA) (a1 : Bool) {h : H} {R : Value → H → Prop} (hw : wp Try.prog (M_mi_keyValues a0 a1) (Ret R) h) : HC Try.prog fn_mi_keyValues (List.map AV.val [.c (.addr a0), .c (.bool a1)]).toArray h R :=
  den_calls hmix Try.func95 (of_decide_eq_true rfl) (by rw [den_mi_keyValues]; exact hw)

def M_mi_maxMut (a0 : PA) (a1 : Bool) : M :=
  .load (a0.fst, a0.snd + 2) (.ptr) fun q0 =>
  .ite (Option.isNone q0)
  (.load (a0.fst, a0.snd + 5) (.int .i64) fun i1 =>
    .load (a0.fst, a0.snd + 4) (.int .i64) fun i2 =>
    .done .ret [.c (.int .i64 (i1)), .c (.int .i64 (i2)), .c (.ff)])
  (.call fn_mi_isoLoad [.c (.addr a0), .c (.addr (a0.fst, a0.snd + 2)), .c (.bool (a1))] false [.c (.ptr)] fun r3 =>
    .loop [.c (.ptr)] [.c (.ptr (r3.fst))] fun y4 =>
      .call fn_ni_leaf [.c (.ptr (y4.fst))] false [.c (.bool)] fun r5 =>
      .ite (r5.fst)
      (.nonnil (y4.fst) fun p6 =>
        .load (p6.fst, p6.snd + 2) (.sl) fun s7 =>
        .nonnil (y4.fst) fun p8 =>
        .load (p8.fst, p8.snd + 2) (.sl) fun s9 =>
        .guard (InK IntKind.i64 ((↑s9.snd.fst : Int) - 1)) <|
        .nonnil (s7.fst) fun p10 =>
        .guard (((0 : Int) ≤ (↑s9.snd.fst : Int) - 1) ∧ (((↑s9.snd.fst : Int) - 1 : Int) < (↑s7.snd.fst : Int))) <|
        .load (p10.fst, p10.snd + mulN ((↑s9.snd.fst : Int) - 1).toNat 2) (.int .i64) fun i11 =>
        .load (p10.fst, p10.snd + mulN ((↑s9.snd.fst : Int) - 1).toNat 2 + 1) (.int .i64) fun i12 =>
        .alloc ty_btree_mapPair_int_int [.int .i64 (0), .int .i64 (0)] fun n13 =>
        .held (p10.fst, p10.snd + mulN ((↑s9.snd.fst : Int) - 1).toNat 2) (.int .i64 (i11)) <|
        .held (p10.fst, p10.snd + mulN ((↑s9.snd.fst : Int) - 1).toNat 2 + 1) (.int .i64 (i12)) <|
        .held (p8.fst, p8.snd + 2) (.sl (s9.fst) (s9.snd.fst) (s9.snd.snd)) <|
        .held (p6.fst, p6.snd + 2) (.sl (s7.fst) (s7.snd.fst) (s7.snd.snd)) <|
        .store (n13, 0) (.int .i64 (i11)) <|
        .store (n13, 1) (.int .i64 (i12)) <|
        .load (n13, 1) (.int .i64) fun i14 =>
        .load (n13, 0) (.int .i64) fun i15 =>
        .done .ret [.c (.int .i64 (i14)), .c (.int .i64 (i15)), .c (.tt)])
      (.nonnil (y4.fst) fun p16 =>
        .load (p16.fst, p16.snd + 3) (.ptr) fun q17 =>
        .nonnil (q17) fun p18 =>
        .load p18 (.sl) fun s19 =>
        .nonnil (y4.fst) fun p20 =>
        .load (p20.fst, p20.snd + 3) (.ptr) fun q21 =>
        .nonnil (q21) fun p22 =>
        .load p22 (.sl) fun s23 =>
        .guard (InK IntKind.i64 ((↑s23.snd.fst : Int) - 1)) <|
        .nonnil (s19.fst) fun p24 =>
        .guard (((0 : Int) ≤ (↑s23.snd.fst : Int) - 1) ∧ (((↑s23.snd.fst : Int) - 1 : Int) < (↑s19.snd.fst : Int))) <|
        .call fn_mi_isoLoad [.c (.addr a0), .c (.addr (p24.fst, p24.snd + ((↑s23.snd.fst : Int) - 1).toNat)), .c (.bool (a1))] false [.c (.ptr)] fun r25 =>
        .done .normal [.c (.ptr (r25.fst))]))

theorem den_mi_maxMut (a0 : PA) (a1 : Bool) : denFn Try.prog Try.f101 [.c (.addr a0), .c (.bool a1)] = M_mi_maxMut a0 a1 := by kernel_rfl
theorem hc_mi_maxMut (a0 : PA) (a1 : Bool) {h : H} {R : Value → H → Prop} (hw : wp Try.prog (M_mi_maxMut a0 a1) (Ret R) h) : HC Try.prog fn_mi_maxMut (List.map AV.val [.c (.addr a0), .c (.bool a1)]).toArray h R :=
  den_calls hmix Try.func101 (of_decide_eq_true rfl) (by rw [den_mi_maxMut]; exact hw)

def M_mi_nodeAscend (a0 : PA) (a1 : PA) (a2 : Int) (a3 : Value) (a4 : Bool) : M :=
  .call fn_mi_isoLoad [.c (.addr a0), .c (.addr a1), .c (.bool (a4))] false [.c (.ptr)] fun r0 =>
  .call fn_mi_search [.c (.addr a0), .c (.ptr (r0.fst)), .c (.int .i64 (a2))] true [.c (.int .i64), .c (.bool)] fun r1 =>
  .bind none (.ite (!r1.snd.fst)
    (.call fn_ni_leaf [.c (.ptr (r0.fst))] false [.c (.bool)] fun r2 =>
      .bind none (.ite (!r2.fst)
        (.nonnil (r0.fst) fun p3 =>
          .load (p3.fst, p3.snd + 3) (.ptr) fun q4 =>
          .nonnil (q4) fun p5 =>
          .load p5 (.sl) fun s6 =>
          .nonnil (s6.fst) fun p7 =>
          .guard (((0 : Int) ≤ r1.fst) ∧ ((r1.fst : Int) < (↑s6.snd.fst : Int))) <|
          .call fn_mi_nodeAscend [.c (.addr a0), .c (.addr (p7.fst, p7.snd + Int.toNat r1.fst)), .c (.int .i64 (a2)), .c (.raw (a3)), .c (.bool (a4))] false [.c (.bool)] fun r8 =>
          .ite (!r8.fst)
          (.done .ret [.c (.ff)])
          (.done .normal []))
        (.done .normal [])) [] fun x9 =>
      .done .normal [])
    (.done .normal [])) [] fun x10 =>
  .bind (some 0) (.loop [.c (.int .i64)] [.c (.int .i64 (r1.fst))] fun y11 =>
      .nonnil (r0.fst) fun p12 =>
      .load (p12.fst, p12.snd + 2) (.sl) fun s13 =>
      .ite (decide (y11.fst < (↑s13.snd.fst : Int)))
      (.nonnil (r0.fst) fun p14 =>
        .load (p14.fst, p14.snd + 2) (.sl) fun s15 =>
        .nonnil (s15.fst) fun p16 =>
        .guard (((0 : Int) ≤ y11.fst) ∧ ((y11.fst : Int) < (↑s15.snd.fst : Int))) <|
        .load (p16.fst, p16.snd + mulN (Int.toNat y11.fst) 2 + 1) (.int .i64) fun i17 =>
        .nonnil (r0.fst) fun p18 =>
        .load (p18.fst, p18.snd + 2) (.sl) fun s19 =>
        .nonnil (s19.fst) fun p20 =>
        .guard (((0 : Int) ≤ y11.fst) ∧ ((y11.fst : Int) < (↑s19.snd.fst : Int))) <|
        .load (p20.fst, p20.snd + mulN (Int.toNat y11.fst) 2) (.int .i64) fun i21 =>
        .callv (a3) [.c (.int .i64 (i17)), .c (.int .i64 (i21))] false [.c (.bool)] fun r22 =>
        .ite (!r22.fst)
        (.done .ret [.c (.ff)])
        (.call fn_ni_leaf [.c (.ptr (r0.fst))] false [.c (.bool)] fun r23 =>
          .bind none (.ite (!r23.fst)
            (.nonnil (r0.fst) fun p24 =>
              .load (p24.fst, p24.snd + 3) (.ptr) fun q25 =>
              .nonnil (q25) fun p26 =>
              .load p26 (.sl) fun s27 =>
              .guard (InK IntKind.i64 (y11.fst + 1)) <|
              .nonnil (s27.fst) fun p28 =>
              .guard (((0 : Int) ≤ y11.fst + 1) ∧ ((y11.fst + 1 : Int) < (↑s27.snd.fst : Int))) <|
              .call fn_mi_nodeScan [.c (.addr a0), .c (.addr (p28.fst, p28.snd + (y11.fst + 1).toNat)), .c (.raw (a3)), .c (.bool (a4))] false [.c (.bool)] fun r29 =>
              .ite (!r29.fst)
              (.done .ret [.c (.ff)])
              (.done .normal []))
            (.done .normal [])) [] fun x30 =>
          .guard (InK IntKind.i64 (y11.fst + 1)) <|
          .done .normal [.c (.int .i64 (y11.fst + 1))]))
      (.done (.exit 0) [])) [] fun x31 =>
  .done .ret [.c (.tt)]

theorem den_mi_nodeAscend (a0 : PA) (a1 : PA) (a2 : Int) (a3 : Value) (a4 : Bool) : denFn Try.prog Try.f126 [.c (.addr a0), .c (.addr a1), .c (.int .i64 a2), .c (.raw a3), .c (.bool a4)] = M_mi_nodeAscend a0 a1 a2 a3 a4 := by kernel_rfl
theorem hc_mi_nodeAscend (a0 : PA) (a1 : PA) (a2 : Int) (a3 : Value) (a4 : Bool) {h : H} {R : Value → H → Prop} (hw : wp Try.prog (M_mi_nodeAscend a0 a1 a2 a3 a4) (Ret R) h) : HC Try.prog fn_mi_nodeAscend (List.map AV.val [.c (.addr a0), .c (.addr a1), .c (.int .i64 a2), .c (.raw a3), .c (.bool a4)]).toArray h R :=
  den_calls hmix Try.func126 (of_decide_eq_true rfl) (by rw [den_mi_nodeAscend]; exact hw)

def M_mi_nodeKeyValues (a0 : PA) (a1 : PA) (a2p : Option PA) (a2l : Nat) (a2c : Nat) (a3p : Option PA) (a3l : Nat) (a3c : Nat) (a4 : Bool) : M :=
  .call fn_mi_isoLoad [.c (.addr a0), .c (.addr a1), .c (.bool (a4))] false [.c (.ptr)] fun r0 =>
  .call fn_ni_leaf [.c (.ptr (r0.fst))] false [.c (.bool)] fun r1 =>
  .ite (r1.fst)
  (.bind (some 0) (.loop [.c (.int .i64), .c (.sl), .c (.sl)] [.c (.int .i64 (0)), .c (.sl (a3p) (a3l) (a3c)), .c (.sl (a2p) (a2l) (a2c))] fun y2 =>
        .nonnil (r0.fst) fun p3 =>
        .load (p3.fst, p3.snd + 2) (.sl) fun s4 =>
        .ite (decide (y2.fst < (↑s4.snd.fst : Int)))
        (.nonnil (r0.fst) fun p5 =>
          .load (p5.fst, p5.snd + 2) (.sl) fun s6 =>
          .nonnil (s6.fst) fun p7 =>
          .guard (((0 : Int) ≤ y2.fst) ∧ ((y2.fst : Int) < (↑s6.snd.fst : Int))) <|
          .load (p7.fst, p7.snd + mulN (Int.toNat y2.fst) 2 + 1) (.int .i64) fun i8 =>
          .alloc ty_int [.int .i64 (i8)] fun n9 =>
          .append ty_int 1 8 [.int .i64 (0)] ((y2.snd.snd.fst.fst), y2.snd.snd.fst.snd.fst, y2.snd.snd.fst.snd.snd) ((some (n9, 0)), 1, 1) fun s10 =>
          .nonnil (r0.fst) fun p11 =>
          .load (p11.fst, p11.snd + 2) (.sl) fun s12 =>
          .nonnil (s12.fst) fun p13 =>
          .guard (((0 : Int) ≤ y2.fst) ∧ ((y2.fst : Int) < (↑s12.snd.fst : Int))) <|
          .load (p13.fst, p13.snd + mulN (Int.toNat y2.fst) 2) (.int .i64) fun i14 =>
          .alloc ty_int [.int .i64 (i14)] fun n15 =>
          .append ty_int 1 8 [.int .i64 (0)] ((y2.snd.fst.fst), y2.snd.fst.snd.fst, y2.snd.fst.snd.snd) ((some (n15, 0)), 1, 1) fun s16 =>
          .guard (InK IntKind.i64 (y2.fst + 1)) <|
          .done .normal [.c (.int .i64 (y2.fst + 1)), .c (.sl (s16.fst) (s16.snd.fst) (s16.snd.snd)), .c (.sl (s10.fst) (s10.snd.fst) (s10.snd.snd))])
        (.done (.exit 0) [.c (.sl (y2.snd.fst.fst) (y2.snd.fst.snd.fst) (y2.snd.fst.snd.snd)), .c (.sl (y2.snd.snd.fst.fst) (y2.snd.snd.fst.snd.fst) (y2.snd.snd.fst.snd.snd))])) [.c (.sl), .c (.sl)] fun x17 =>
    .done .ret [.c (.sl (x17.snd.fst.fst) (x17.snd.fst.snd.fst) (x17.snd.fst.snd.snd)), .c (.sl (x17.fst.fst) (x17.fst.snd.fst) (x17.fst.snd.snd))])
  (.bind (some 2) (.loop [.c (.int .i64), .c (.sl), .c (.sl)] [.c (.int .i64 (0)), .c (.sl (a3p) (a3l) (a3c)), .c (.sl (a2p) (a2l) (a2c))] fun y18 =>
        .nonnil (r0.fst) fun p19 =>
        .load (p19.fst, p19.snd + 2) (.sl) fun s20 =>
        .ite (decide (y18.fst < (↑s20.snd.fst : Int)))
        (.nonnil (r0.fst) fun p21 =>
          .load (p21.fst, p21.snd + 3) (.ptr) fun q22 =>
          .nonnil (q22) fun p23 =>
          .load p23 (.sl) fun s24 =>
          .nonnil (s24.fst) fun p25 =>
          .guard (((0 : Int) ≤ y18.fst) ∧ ((y18.fst : Int) < (↑s24.snd.fst : Int))) <|
          .call fn_mi_nodeKeyValues [.c (.addr a0), .c (.addr (p25.fst, p25.snd + Int.toNat y18.fst)), .c (.sl (y18.snd.snd.fst.fst) (y18.snd.snd.fst.snd.fst) (y18.snd.snd.fst.snd.snd)), .c (.sl (y18.snd.fst.fst) (y18.snd.fst.snd.fst) (y18.snd.fst.snd.snd)), .c (.bool (a4))] true [.c (.sl), .c (.sl)] fun r26 =>
          .nonnil (r0.fst) fun p27 =>
          .load (p27.fst, p27.snd + 2) (.sl) fun s28 =>
          .nonnil (s28.fst) fun p29 =>
          .guard (((0 : Int) ≤ y18.fst) ∧ ((y18.fst : Int) < (↑s28.snd.fst : Int))) <|
          .load (p29.fst, p29.snd + mulN (Int.toNat y18.fst) 2 + 1) (.int .i64) fun i30 =>
          .alloc ty_int [.int .i64 (i30)] fun n31 =>
          .append ty_int 1 8 [.int .i64 (0)] ((r26.fst.fst), r26.fst.snd.fst, r26.fst.snd.snd) ((some (n31, 0)), 1, 1) fun s32 =>
          .nonnil (r0.fst) fun p33 =>
          .load (p33.fst, p33.snd + 2) (.sl) fun s34 =>
          .nonnil (s34.fst) fun p35 =>
          .guard (((0 : Int) ≤ y18.fst) ∧ ((y18.fst : Int) < (↑s34.snd.fst : Int))) <|
          .load (p35.fst, p35.snd + mulN (Int.toNat y18.fst) 2) (.int .i64) fun i36 =>
          .alloc ty_int [.int .i64 (i36)] fun n37 =>
          .append ty_int 1 8 [.int .i64 (0)] ((r26.snd.fst.fst), r26.snd.fst.snd.fst, r26.snd.fst.snd.snd) ((some (n37, 0)), 1, 1) fun s38 =>
          .guard (InK IntKind.i64 (y18.fst + 1)) <|
          .done .normal [.c (.int .i64 (y18.fst + 1)), .c (.sl (s38.fst) (s38.snd.fst) (s38.snd.snd)), .c (.sl (s32.fst) (s32.snd.fst) (s32.snd.snd))])
        (.done (.exit 2) [.c (.sl (y18.snd.fst.fst) (y18.snd.fst.snd.fst) (y18.snd.fst.snd.snd)), .c (.sl (y18.snd.snd.fst.fst) (y18.snd.snd.fst.snd.fst) (y18.snd.snd.fst.snd.snd))])) [.c (.sl), .c (.sl)] fun x39 =>
    .nonnil (r0.fst) fun p40 =>
    .load (p40.fst, p40.snd + 3) (.ptr) fun q41 =>
    .nonnil (q41) fun p42 =>
    .load p42 (.sl) fun s43 =>
    .nonnil (r0.fst) fun p44 =>
    .load (p44.fst, p44.snd + 3) (.ptr) fun q45 =>
    .nonnil (q45) fun p46 =>
    .load p46 (.sl) fun s47 =>
    .guard (InK IntKind.i64 ((↑s47.snd.fst : Int) - 1)) <|
    .nonnil (s43.fst) fun p48 =>
    .guard (((0 : Int) ≤ (↑s47.snd.fst : Int) - 1) ∧ (((↑s47.snd.fst : Int) - 1 : Int) < (↑s43.snd.fst : Int))) <|
    .call fn_mi_nodeKeyValues [.c (.addr a0), .c (.addr (p48.fst, p48.snd + ((↑s47.snd.fst : Int) - 1).toNat)), .c (.sl (x39.snd.fst.fst) (x39.snd.fst.snd.fst) (x39.snd.fst.snd.snd)), .c (.sl (x39.fst.fst) (x39.fst.snd.fst) (x39.fst.snd.snd)), .c (.bool (a4))] true [.c (.sl), .c (.sl)] fun r49 =>
    .done .ret [.c (.sl (r49.fst.fst) (r49.fst.snd.fst) (r49.fst.snd.snd)), .c (.sl (r49.snd.fst.fst) (r49.snd.fst.snd.fst) (r49.snd.fst.snd.snd))])

theorem den_mi_nodeKeyValues (a0 : PA) (a1 : PA) (a2p : Option PA) (a2l : Nat) (a2c : Nat) (a3p : Option PA) (a3l : Nat) (a3c : Nat) (a4 : Bool) : denFn Try.prog Try.f119 [.c (.addr a0), .c (.addr a1), .c (.sl a2p a2l a2c), .c (.sl a3p a3l a3c), .c (.bool a4)] = M_mi_nodeKeyValues a0 a1 a2p a2l a2c a3p a3l a3c a4 := by kernel_rfl
theorem hc_mi_nodeKeyValues (a0 : PA) (a1 : PA) (a2p : Option PA) (a2l : Nat) (a2c : Nat) (a3p : Option PA) (a3l : Nat) (a3c : Nat) (a4 : Bool) {h : H} {R : Value → H → Prop} (hw : wp Try.prog (M_mi_nodeKeyValues a0 a1 a2p a2l a2c a3p a3l a3c a4) (Ret R) h) : HC Try.prog fn_mi_nodeKeyValues (List.map AV.val [.c (.addr a0), .c (.addr a1), .c (.sl a2p a2l a2c), .c (.sl a3p a3l a3c), .c (.bool a4)]).toArray h R :=
  den_calls hmix Try.func119 (of_decide_eq_true rfl) (by rw [den_mi_nodeKeyValues]; exact hw)

def M_mi_nodeScan (a0 : PA) (a1 : PA) (a2 : Value) (a3 : Bool) : M :=
  .call fn_mi_isoLoad [.c (.addr a0), .c (.addr a1), .c (.bool (a3))] false [.c (.ptr)] fun r0 =>
  .call fn_ni_leaf [.c (.ptr (r0.fst))] false [.c (.bool)] fun r1 =>
  .ite (r1.fst)
  (.bind (some 0) (.loop [.c (.int .i64)] [.c (.int .i64 (0))] fun y2 =>
        .nonnil (r0.fst) fun p3 =>
        .load (p3.fst, p3.snd + 2) (.sl) fun s4 =>
        .ite (decide (y2.fst < (↑s4.snd.fst : Int)))
        (.nonnil (r0.fst) fun p5 =>
          .load (p5.fst, p5.snd + 2) (.sl) fun s6 =>
          .nonnil (s6.fst) fun p7 =>
          .guard (((0 : Int) ≤ y2.fst) ∧ ((y2.fst : Int) < (↑s6.snd.fst : Int))) <|
          .load (p7.fst, p7.snd + mulN (Int.toNat y2.fst) 2 + 1) (.int .i64) fun i8 =>
          .nonnil (r0.fst) fun p9 =>
          .load (p9.fst, p9.snd + 2) (.sl) fun s10 =>
          .nonnil (s10.fst) fun p11 =>
          .guard (((0 : Int) ≤ y2.fst) ∧ ((y2.fst : Int) < (↑s10.snd.fst : Int))) <|
          .load (p11.fst, p11.snd + mulN (Int.toNat y2.fst) 2) (.int .i64) fun i12 =>
          .callv (a2) [.c (.int .i64 (i8)), .c (.int .i64 (i12))] false [.c (.bool)] fun r13 =>
          .ite (!r13.fst)
          (.done .ret [.c (.ff)])
          (.guard (InK IntKind.i64 (y2.fst + 1)) <|
            .done .normal [.c (.int .i64 (y2.fst + 1))]))
        (.done (.exit 0) [])) [] fun x14 =>
    .done .ret [.c (.tt)])
  (.bind (some 2) (.loop [.c (.int .i64)] [.c (.int .i64 (0))] fun y15 =>
        .nonnil (r0.fst) fun p16 =>
        .load (p16.fst, p16.snd + 2) (.sl) fun s17 =>
        .ite (decide (y15.fst < (↑s17.snd.fst : Int)))
        (.nonnil (r0.fst) fun p18 =>
          .load (p18.fst, p18.snd + 3) (.ptr) fun q19 =>
          .nonnil (q19) fun p20 =>
          .load p20 (.sl) fun s21 =>
          .nonnil (s21.fst) fun p22 =>
          .guard (((0 : Int) ≤ y15.fst) ∧ ((y15.fst : Int) < (↑s21.snd.fst : Int))) <|
          .call fn_mi_nodeScan [.c (.addr a0), .c (.addr (p22.fst, p22.snd + Int.toNat y15.fst)), .c (.raw (a2)), .c (.bool (a3))] false [.c (.bool)] fun r23 =>
          .ite (!r23.fst)
          (.done .ret [.c (.ff)])
          (.nonnil (r0.fst) fun p24 =>
            .load (p24.fst, p24.snd + 2) (.sl) fun s25 =>
            .nonnil (s25.fst) fun p26 =>
            .guard (((0 : Int) ≤ y15.fst) ∧ ((y15.fst : Int) < (↑s25.snd.fst : Int))) <|
            .load (p26.fst, p26.snd + mulN (Int.toNat y15.fst) 2 + 1) (.int .i64) fun i27 =>
            .nonnil (r0.fst) fun p28 =>
            .load (p28.fst, p28.snd + 2) (.sl) fun s29 =>
            .nonnil (s29.fst) fun p30 =>
            .guard (((0 : Int) ≤ y15.fst) ∧ ((y15.fst : Int) < (↑s29.snd.fst : Int))) <|
            .load (p30.fst, p30.snd + mulN (Int.toNat y15.fst) 2) (.int .i64) fun i31 =>
            .callv (a2) [.c (.int .i64 (i27)), .c (.int .i64 (i31))] false [.c (.bool)] fun r32 =>
            .ite (!r32.fst)
            (.done .ret [.c (.ff)])
            (.guard (InK IntKind.i64 (y15.fst + 1)) <|
              .done .normal [.c (.int .i64 (y15.fst + 1))])))
        (.done (.exit 2) [])) [] fun x33 =>
    .nonnil (r0.fst) fun p34 =>
    .load (p34.fst, p34.snd + 3) (.ptr) fun q35 =>
    .nonnil (q35) fun p36 =>
    .load p36 (.sl) fun s37 =>
    .nonnil (r0.fst) fun p38 =>
    .load (p38.fst, p38.snd + 3) (.ptr) fun q39 =>
    .nonnil (q39) fun p40 =>
    .load p40 (.sl) fun s41 =>
    .guard (InK IntKind.i64 ((↑s41.snd.fst : Int) - 1)) <|
    .nonnil (s37.fst) fun p42 =>
    .guard (((0 : Int) ≤ (↑s41.snd.fst : Int) - 1) ∧ (((↑s41.snd.fst : Int) - 1 : Int) < (↑s37.snd.fst : Int))) <|
    .call fn_mi_nodeScan [.c (.addr a0), .c (.addr (p42.fst, p42.snd + ((↑s41.snd.fst : Int) - 1).toNat)), .c (.raw (a2)), .c (.bool (a3))] false [.c (.bool)] fun r43 =>
    .done .ret [.c (.bool (r43.fst))])

theorem den_mi_nodeScan (a0 : PA) (a1 : PA) (a2 : Value) (a3 : Bool) : denFn Try.prog Try.f122 [.c (.addr a0), .c (.addr a1), .c (.raw a2), .c (.bool a3)] = M_mi_nodeScan a0 a1 a2 a3 := by kernel_rfl
theorem hc_mi_nodeScan (a0 : PA) (a1 : PA) (a2 : Value) (a3 : Bool) {h : H} {R : Value → H → Prop} (hw : wp Try.prog (M_mi_nodeScan a0 a1 a2 a3) (Ret R) h) : HC Try.prog fn_mi_nodeScan (List.map AV.val [.c (.addr a0), .c (.addr a1), .c (.raw a2), .c (.bool a3)]).toArray h R :=
  den_calls hmix Try.func122 (of_decide_eq_true rfl) (by rw [den_mi_nodeScan]; exact hw)

def M_mi_nodeValues (a0 : PA) (a1 : PA) (a2p : Option PA) (a2l : Nat) (a2c : Nat) (a3 : Bool) : M :=
  .call fn_mi_isoLoad [.c (.addr a0), .c (.addr a1), .c (.bool (a3))] false [.c (.ptr)] fun r0 =>
  .call fn_ni_leaf [.c (.ptr (r0.fst))] false [.c (.bool)] fun r1 =>
  .ite (r1.fst)
  (.bind (some 0) (.loop [.c (.int .i64), .c (.sl)] [.c (.int .i64 (0)), .c (.sl (a2p) (a2l) (a2c))] fun y2 =>
        .nonnil (r0.fst) fun p3 =>
        .load (p3.fst, p3.snd + 2) (.sl) fun s4 =>
        .ite (decide (y2.fst < (↑s4.snd.fst : Int)))
        (.nonnil (r0.fst) fun p5 =>
          .load (p5.fst, p5.snd + 2) (.sl) fun s6 =>
          .nonnil (s6.fst) fun p7 =>
          .guard (((0 : Int) ≤ y2.fst) ∧ ((y2.fst : Int) < (↑s6.snd.fst : Int))) <|
          .load (p7.fst, p7.snd + mulN (Int.toNat y2.fst) 2) (.int .i64) fun i8 =>
          .alloc ty_int [.int .i64 (i8)] fun n9 =>
          .append ty_int 1 8 [.int .i64 (0)] ((y2.snd.fst.fst), y2.snd.fst.snd.fst, y2.snd.fst.snd.snd) ((some (n9, 0)), 1, 1) fun s10 =>
          .guard (InK IntKind.i64 (y2.fst + 1)) <|
          .done .normal [.c (.int .i64 (y2.fst + 1)), .c (.sl (s10.fst) (s10.snd.fst) (s10.snd.snd))])
        (.done (.exit 0) [.c (.sl (y2.snd.fst.fst) (y2.snd.fst.snd.fst) (y2.snd.fst.snd.snd))])) [.c (.sl)] fun x11 =>
    .done .ret [.c (.sl (x11.fst.fst) (x11.fst.snd.fst) (x11.fst.snd.snd))])
  (.bind (some 2) (.loop [.c (.int .i64), .c (.sl)] [.c (.int .i64 (0)), .c (.sl (a2p) (a2l) (a2c))] fun y12 =>
        .nonnil (r0.fst) fun p13 =>
        .load (p13.fst, p13.snd + 2) (.sl) fun s14 =>
        .ite (decide (y12.fst < (↑s14.snd.fst : Int)))
        (.nonnil (r0.fst) fun p15 =>
          .load (p15.fst, p15.snd + 3) (.ptr) fun q16 =>
          .nonnil (q16) fun p17 =>
          .load p17 (.sl) fun s18 =>
          .nonnil (s18.fst) fun p19 =>
          .guard (((0 : Int) ≤ y12.fst) ∧ ((y12.fst : Int) < (↑s18.snd.fst : Int))) <|
          .call fn_mi_nodeValues [.c (.addr a0), .c (.addr (p19.fst, p19.snd + Int.toNat y12.fst)), .c (.sl (y12.snd.fst.fst) (y12.snd.fst.snd.fst) (y12.snd.fst.snd.snd)), .c (.bool (a3))] false [.c (.sl)] fun r20 =>
          .nonnil (r0.fst) fun p21 =>
          .load (p21.fst, p21.snd + 2) (.sl) fun s22 =>
          .nonnil (s22.fst) fun p23 =>
          .guard (((0 : Int) ≤ y12.fst) ∧ ((y12.fst : Int) < (↑s22.snd.fst : Int))) <|
          .load (p23.fst, p23.snd + mulN (Int.toNat y12.fst) 2) (.int .i64) fun i24 =>
          .alloc ty_int [.int .i64 (i24)] fun n25 =>
          .append ty_int 1 8 [.int .i64 (0)] ((r20.fst.fst), r20.fst.snd.fst, r20.fst.snd.snd) ((some (n25, 0)), 1, 1) fun s26 =>
          .guard (InK IntKind.i64 (y12.fst + 1)) <|
          .done .normal [.c (.int .i64 (y12.fst + 1)), .c (.sl (s26.fst) (s26.snd.fst) (s26.snd.snd))])
        (.done (.exit 2) [.c (.sl (y12.snd.fst.fst) (y12.snd.fst.snd.fst) (y12.snd.fst.snd.snd))])) [.c (.sl)] fun x27 =>
    .nonnil (r0.fst) fun p28 =>
    .load (p28.fst, p28.snd + 3) (.ptr) fun q29 =>
    .nonnil (q29) fun p30 =>
    .load p30 (.sl) fun s31 =>
    .nonnil (r0.fst) fun p32 =>
    .load (p32.fst, p32.snd + 3) (.ptr) fun q33 =>
    .nonnil (q33) fun p34 =>
    .load p34 (.sl) fun s35 =>
    .guard (InK IntKind.i64 ((↑s35.snd.fst : Int) - 1)) <|
    .nonnil (s31.fst) fun p36 =>
    .guard (((0 : Int) ≤ (↑s35.snd.fst : Int) - 1) ∧ (((↑s35.snd.fst : Int) - 1 : Int) < (↑s31.snd.fst : Int))) <|
    .call fn_mi_nodeValues [.c (.addr a0), .c (.addr (p36.fst, p36.snd + ((↑s35.snd.fst : Int) - 1).toNat)), .c (.sl (x27.fst.fst) (x27.fst.snd.fst) (x27.fst.snd.snd)), .c (.bool (a3))] false [.c (.sl)] fun r37 =>
    .done .ret [.c (.sl (r37.fst.fst) (r37.fst.snd.fst) (r37.fst.snd.snd))])

theorem den_mi_nodeValues (a0 : PA) (a1 : PA) (a2p : Option PA) (a2l : Nat) (a2c : Nat) (a3 : Bool) : denFn Try.prog Try.f108 [.c (.addr a0), .c (.addr a1), .c (.sl a2p a2l a2c), .c (.bool a3)] = M_mi_nodeValues a0 a1 a2p a2l a2c a3 := by kernel_rfl
theorem hc_mi_nodeValues (a0 : PA) (a1 : PA) (a2p : Option PA) (a2l : Nat) (a2c : Nat) (a3 : Bool) {h : H} {R : Value → H → Prop} (hw : wp Try.prog (M_mi_nodeValues a0 a1 a2p a2l a2c a3) (Ret R) h) : HC Try.prog fn_mi_nodeValues (List.map AV.val [.c (.addr a0), .c (.addr a1), .c (.sl a2p a2l a2c), .c (.bool a3)]).toArray h R :=
  den_calls hmix Try.func108 (of_decide_eq_true rfl) (by rw [den_mi_nodeValues]; exact hw)

def M_mi_scan (a0 : PA) (a1 : Value) (a2 : Bool) : M :=
  .load (a0.fst, a0.snd + 2) (.ptr) fun q0 =>
  .ite (Option.isNone q0)
  (.done .ret [])
  (.call fn_mi_nodeScan [.c (.addr a0), .c (.addr (a0.fst, a0.snd + 2)), .c (.raw (a1)), .c (.bool (a2))] false [.c (.bool)] fun r1 =>
    .done .ret [])

theorem den_mi_scan (a0 : PA) (a1 : Value) (a2 : Bool) : denFn Try.prog Try.f98 [.c (.addr a0), .c (.raw a1), .c (.bool a2)] = M_mi_scan a0 a1 a2 := by kernel_rfl
theorem hc_mi_scan (a0 : PA) (a1 : Value) (a2 : Bool) {h : H} {R : Value → H → Prop} (hw : wp Try.prog (M_mi_scan a0 a1 a2) (Ret R) h) : HC Try.prog fn_mi_scan (List.map AV.val [.c (.addr a0), .c (.raw a1), .c (.bool a2)]).toArray h R :=
  den_calls hmix Try.func98 (of_decide_eq_true rfl) (by rw [den_mi_scan]; exact hw)

def M_mi_values (a0 : PA) (a1 : Bool) : M :=
  .call fn_mi_Len [.c (.addr a0)] false [.c (.int .i64)] fun r0 =>
  .make ty_int 1 8 [.int .i64 (0)] (0) (r0.fst) fun s1 =>
  .load (a0.fst, a0.snd + 2) (.ptr) fun q2 =>
  .bind none (.ite (!Option.isNone q2)
    (.call fn_mi_nodeValues [.c (.addr a0), .c (.addr (a0.fst, a0.snd + 2)), .c (.sl (s1.fst) (s1.snd.fst) (s1.snd.snd)), .c (.bool (a1))] false [.c (.sl)] fun r3 =>
      .done .normal [.c (.sl (r3.fst.fst) (r3.fst.snd.fst) (r3.fst.snd.snd))])
    (.done .normal [.c (.sl (s1.fst) (s1.snd.fst) (s1.snd.snd))])) [.c (.sl)] fun x4 =>
  .done .ret [.c (.sl (x4.fst.fst) (x4.fst.snd.fst) (x4.fst.snd.snd))]

theorem den_mi_values (a0 : PA) (a1 : Bool) : denFn Try.prog Try.f86 [.c (.addr a0), .c (.bool a1)] = M_mi_values a0 a1 := by kernel_rfl
theorem hc_mi_values (a0 : PA) (a1 : Bool) {h : H} {R : Value → H → Prop} (hw : wp Try.prog (M_mi_values a0 a1) (Ret R) h) : HC Try.prog fn_mi_values (List.map AV.val [.c (.addr a0), .c (.bool a1)]).toArray h R :=
  den_calls hmix Try.func86 (of_decide_eq_true rfl) (by rw [den_mi_values]; exact hw)

def M_ni_keys (a0 : PA) (a1p : Option PA) (a1l : Nat) (a1c : Nat) : M :=
  .call fn_ni_leaf [.c (.addr a0)] false [.c (.bool)] fun r0 =>
  .ite (r0.fst)
  (.bind (some 0) (.loop [.c (.int .i64), .c (.sl)] [.c (.int .i64 (0)), .c (.sl (a1p) (a1l) (a1c))] fun y1 =>
        .load (a0.fst, a0.snd + 2) (.sl) fun s2 =>
        .ite (decide (y1.fst < (↑s2.snd.fst : Int)))
        (.load (a0.fst, a0.snd + 2) (.sl) fun s3 =>
          .nonnil (s3.fst) fun p4 =>
          .guard (((0 : Int) ≤ y1.fst) ∧ ((y1.fst : Int) < (↑s3.snd.fst : Int))) <|
          .load (p4.fst, p4.snd + mulN (Int.toNat y1.fst) 2 + 1) (.int .i64) fun i5 =>
          .alloc ty_int [.int .i64 (i5)] fun n6 =>
          .append ty_int 1 8 [.int .i64 (0)] ((y1.snd.fst.fst), y1.snd.fst.snd.fst, y1.snd.fst.snd.snd) ((some (n6, 0)), 1, 1) fun s7 =>
          .guard (InK IntKind.i64 (y1.fst + 1)) <|
          .done .normal [.c (.int .i64 (y1.fst + 1)), .c (.sl (s7.fst) (s7.snd.fst) (s7.snd.snd))])
        (.done (.exit 0) [.c (.sl (y1.snd.fst.fst) (y1.snd.fst.snd.fst) (y1.snd.fst.snd.snd))])) [.c (.sl)] fun x8 =>
    .done .ret [.c (.sl (x8.fst.fst) (x8.fst.snd.fst) (x8.fst.snd.snd))])
  (.bind (some 2) (.loop [.c (.int .i64), .c (.sl)] [.c (.int .i64 (0)), .c (.sl (a1p) (a1l) (a1c))] fun y9 =>
        .load (a0.fst, a0.snd + 2) (.sl) fun s10 =>
        .ite (decide (y9.fst < (↑s10.snd.fst : Int)))
        (.load (a0.fst, a0.snd + 3) (.ptr) fun q11 =>
          .nonnil (q11) fun p12 =>
          .load p12 (.sl) fun s13 =>
          .nonnil (s13.fst) fun p14 =>
          .guard (((0 : Int) ≤ y9.fst) ∧ ((y9.fst : Int) < (↑s13.snd.fst : Int))) <|
          .load (p14.fst, p14.snd + Int.toNat y9.fst) (.ptr) fun q15 =>
          .call fn_ni_keys [.c (.ptr (q15)), .c (.sl (y9.snd.fst.fst) (y9.snd.fst.snd.fst) (y9.snd.fst.snd.snd))] false [.c (.sl)] fun r16 =>
          .load (a0.fst, a0.snd + 2) (.sl) fun s17 =>
          .nonnil (s17.fst) fun p18 =>
          .guard (((0 : Int) ≤ y9.fst) ∧ ((y9.fst : Int) < (↑s17.snd.fst : Int))) <|
          .load (p18.fst, p18.snd + mulN (Int.toNat y9.fst) 2 + 1) (.int .i64) fun i19 =>
          .alloc ty_int [.int .i64 (i19)] fun n20 =>
          .append ty_int 1 8 [.int .i64 (0)] ((r16.fst.fst), r16.fst.snd.fst, r16.fst.snd.snd) ((some (n20, 0)), 1, 1) fun s21 =>
          .guard (InK IntKind.i64 (y9.fst + 1)) <|
          .done .normal [.c (.int .i64 (y9.fst + 1)), .c (.sl (s21.fst) (s21.snd.fst) (s21.snd.snd))])
        (.done (.exit 2) [.c (.sl (y9.snd.fst.fst) (y9.snd.fst.snd.fst) (y9.snd.fst.snd.snd))])) [.c (.sl)] fun x22 =>
    .load (a0.fst, a0.snd + 3) (.ptr) fun q23 =>
    .nonnil (q23) fun p24 =>
    .load p24 (.sl) fun s25 =>
    .load (a0.fst, a0.snd + 3) (.ptr) fun q26 =>
    .nonnil (q26) fun p27 =>
    .load p27 (.sl) fun s28 =>
    .guard (InK IntKind.i64 ((↑s28.snd.fst : Int) - 1)) <|
    .nonnil (s25.fst) fun p29 =>
    .guard (((0 : Int) ≤ (↑s28.snd.fst : Int) - 1) ∧ (((↑s28.snd.fst : Int) - 1 : Int) < (↑s25.snd.fst : Int))) <|
    .load (p29.fst, p29.snd + ((↑s28.snd.fst : Int) - 1).toNat) (.ptr) fun q30 =>
    .call fn_ni_keys [.c (.ptr (q30)), .c (.sl (x22.fst.fst) (x22.fst.snd.fst) (x22.fst.snd.snd))] false [.c (.sl)] fun r31 =>
    .done .ret [.c (.sl (r31.fst.fst) (r31.fst.snd.fst) (r31.fst.snd.snd))])

theorem den_ni_keys (a0 : PA) (a1p : Option PA) (a1l : Nat) (a1c : Nat) : denFn Try.prog Try.f85 [.c (.addr a0), .c (.sl a1p a1l a1c)] = M_ni_keys a0 a1p a1l a1c := by kernel_rfl
theorem hc_ni_keys (a0 : PA) (a1p : Option PA) (a1l : Nat) (a1c : Nat) {h : H} {R : Value → H → Prop} (hw : wp Try.prog (M_ni_keys a0 a1p a1l a1c) (Ret R) h) : HC Try.prog fn_ni_keys (List.map AV.val [.c (.addr a0), .c (.sl a1p a1l a1c)]).toArray h R :=
  den_calls hmix Try.func85 (of_decide_eq_true rfl) (by rw [den_ni_keys]; exact hw)

end Go.Proofs.Ytkhpbcckaenmcaa
