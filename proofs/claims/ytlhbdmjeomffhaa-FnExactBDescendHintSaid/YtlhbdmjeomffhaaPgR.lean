/-
  Functions of the translation as typed programs, and that each is its function's reading. Written by a program of ours (gen2.py). Conditions: none.
-/
import Derived.Test.YtlhbdmjeomffhaaNm
namespace Go.Proofs.Ytlhbdmjeomffhaa
open Go
set_option maxRecDepth 100000
set_option linter.unusedVariables false
def M_tb_Descend (a0 : PA) (a1 : Value) (a2 : Value) : M :=
  .call fn_tb_descend [.c (.addr a0), .c (.raw (a1)), .c (.raw (a2)), .c (.ff), .c (.ptr none)] true [] fun r0 =>
  .done .ret []
theorem den_tb_Descend (a0 : PA) (a1 : Value) (a2 : Value) : denFn Try.prog Try.f111 [.c (.addr a0), .c (.raw a1), .c (.raw a2)] = M_tb_Descend a0 a1 a2 := by kernel_rfl
theorem hc_tb_Descend (a0 : PA) (a1 : Value) (a2 : Value) {h : H} {R : Value → H → Prop} (hw : wp Try.prog (M_tb_Descend a0 a1 a2) (Ret R) h) : HC Try.prog fn_tb_Descend (List.map AV.val [.c (.addr a0), .c (.raw a1), .c (.raw a2)]).toArray h R :=
  den_calls hmix Try.func111 (of_decide_eq_true rfl) (by rw [den_tb_Descend]; exact hw)
def M_tb_DescendHint (a0 : PA) (a1 : Value) (a2 : Value) (a3 : Option PA) : M :=
  .call fn_tb_descend [.c (.addr a0), .c (.raw (a1)), .c (.raw (a2)), .c (.ff), .c (.ptr (a3))] true [] fun r0 =>
  .done .ret []
theorem den_tb_DescendHint (a0 : PA) (a1 : Value) (a2 : Value) (a3 : Option PA) : denFn Try.prog Try.f114 [.c (.addr a0), .c (.raw a1), .c (.raw a2), .c (.ptr a3)] = M_tb_DescendHint a0 a1 a2 a3 := by kernel_rfl
theorem hc_tb_DescendHint (a0 : PA) (a1 : Value) (a2 : Value) (a3 : Option PA) {h : H} {R : Value → H → Prop} (hw : wp Try.prog (M_tb_DescendHint a0 a1 a2 a3) (Ret R) h) : HC Try.prog fn_tb_DescendHint (List.map AV.val [.c (.addr a0), .c (.raw a1), .c (.raw a2), .c (.ptr a3)]).toArray h R :=
  den_calls hmix Try.func114 (of_decide_eq_true rfl) (by rw [den_tb_DescendHint]; exact hw)
def M_tb_GetAt (a0 : PA) (a1 : Int) : M :=
  .call fn_tb_getAt [.c (.addr a0), .c (.int .i64 (a1)), .c (.ff)] true [.c (.raw), .c (.bool)] fun r0 =>
  .done .ret [.c (.raw (r0.fst)), .c (.bool (r0.snd.fst))]
theorem den_tb_GetAt (a0 : PA) (a1 : Int) : denFn Try.prog Try.f107 [.c (.addr a0), .c (.int .i64 a1)] = M_tb_GetAt a0 a1 := by kernel_rfl
theorem hc_tb_GetAt (a0 : PA) (a1 : Int) {h : H} {R : Value → H → Prop} (hw : wp Try.prog (M_tb_GetAt a0 a1) (Ret R) h) : HC Try.prog fn_tb_GetAt (List.map AV.val [.c (.addr a0), .c (.int .i64 a1)]).toArray h R :=
  den_calls hmix Try.func107 (of_decide_eq_true rfl) (by rw [den_tb_GetAt]; exact hw)
def M_tb_GetHint (a0 : PA) (a1 : Value) (a2 : Option PA) : M :=
  .call fn_tb_getHint [.c (.addr a0), .c (.raw (a1)), .c (.ptr (a2)), .c (.ff)] true [.c (.raw), .c (.bool)] fun r0 =>
  .done .ret [.c (.raw (r0.fst)), .c (.bool (r0.snd.fst))]
theorem den_tb_GetHint (a0 : PA) (a1 : Value) (a2 : Option PA) : denFn Try.prog Try.f134 [.c (.addr a0), .c (.raw a1), .c (.ptr a2)] = M_tb_GetHint a0 a1 a2 := by kernel_rfl
theorem hc_tb_GetHint (a0 : PA) (a1 : Value) (a2 : Option PA) {h : H} {R : Value → H → Prop} (hw : wp Try.prog (M_tb_GetHint a0 a1 a2) (Ret R) h) : HC Try.prog fn_tb_GetHint (List.map AV.val [.c (.addr a0), .c (.raw a1), .c (.ptr a2)]).toArray h R :=
  den_calls hmix Try.func134 (of_decide_eq_true rfl) (by rw [den_tb_GetHint]; exact hw)
def M_tb_Reverse (a0 : PA) (a1 : Value) : M :=
  .call fn_tb_reverse [.c (.addr a0), .c (.raw (a1)), .c (.ff)] true [] fun r0 =>
  .done .ret []
theorem den_tb_Reverse (a0 : PA) (a1 : Value) : denFn Try.prog Try.f110 [.c (.addr a0), .c (.raw a1)] = M_tb_Reverse a0 a1 := by kernel_rfl
theorem hc_tb_Reverse (a0 : PA) (a1 : Value) {h : H} {R : Value → H → Prop} (hw : wp Try.prog (M_tb_Reverse a0 a1) (Ret R) h) : HC Try.prog fn_tb_Reverse (List.map AV.val [.c (.addr a0), .c (.raw a1)]).toArray h R :=
  den_calls hmix Try.func110 (of_decide_eq_true rfl) (by rw [den_tb_Reverse]; exact hw)
def M_tb_descend (a0 : PA) (a1 : Value) (a2 : Value) (a3 : Bool) (a4 : Option PA) : M :=
  .call fn_tb_lock [.c (.addr a0), .c (.bool (a3))] false [.c (.bool)] fun r0 =>
  .bind none (.ite (r0.fst)
    (.fail)
    (.done .normal [])) [] fun x1 =>
  .load (a0.fst, a0.snd + 2) (.ptr) fun q2 =>
  .ite (Option.isNone q2)
  (.done .ret [])
  (.call fn_tb_nodeDescend [.c (.addr a0), .c (.addr (a0.fst, a0.snd + 2)), .c (.raw (a1)), .c (.ptr (a4)), .c (.int .i64 (0)), .c (.raw (a2)), .c (.bool (a3))] false [.c (.bool)] fun r3 =>
    .done .ret [])
theorem den_tb_descend (a0 : PA) (a1 : Value) (a2 : Value) (a3 : Bool) (a4 : Option PA) : denFn Try.prog Try.f137 [.c (.addr a0), .c (.raw a1), .c (.raw a2), .c (.bool a3), .c (.ptr a4)] = M_tb_descend a0 a1 a2 a3 a4 := by kernel_rfl
theorem hc_tb_descend (a0 : PA) (a1 : Value) (a2 : Value) (a3 : Bool) (a4 : Option PA) {h : H} {R : Value → H → Prop} (hw : wp Try.prog (M_tb_descend a0 a1 a2 a3 a4) (Ret R) h) : HC Try.prog fn_tb_descend (List.map AV.val [.c (.addr a0), .c (.raw a1), .c (.raw a2), .c (.bool a3), .c (.ptr a4)]).toArray h R :=
  den_calls hmix Try.func137 (of_decide_eq_true rfl) (by rw [den_tb_descend]; exact hw)
def M_tb_getAt (a0 : PA) (a1 : Int) (a2 : Bool) : M :=
  .call fn_tb_lock [.c (.addr a0), .c (.bool (a2))] false [.c (.bool)] fun r0 =>
  .bind none (.ite (r0.fst)
    (.fail)
    (.done .normal [])) [] fun x1 =>
  .bind none (.load (a0.fst, a0.snd + 2) (.ptr) fun q2 =>
    .ite (Option.isNone q2)
    (.done .normal [.c (.tt)])
    (.ite (decide (a1 < 0))
      (.done .normal [.c (.tt)])
      (.load (a0.fst, a0.snd + 3) (.int .i64) fun i3 =>
        .done .normal [.c (.bool (decide (a1 ≥ i3)))]))) [.c (.bool)] fun x4 =>
  .ite (x4.fst)
  (.load (a0.fst, a0.snd + 7) (.raw) fun v5 =>
    .done .ret [.c (.raw (v5)), .c (.ff)])
  (.call fn_tb_isoLoad [.c (.addr a0), .c (.addr (a0.fst, a0.snd + 2)), .c (.bool (a2))] false [.c (.ptr)] fun r6 =>
    .loop [.c (.ptr), .c (.int .i64)] [.c (.ptr (r6.fst)), .c (.int .i64 (a1))] fun y7 =>
      .call fn_nb_leaf [.c (.ptr (y7.fst))] false [.c (.bool)] fun r8 =>
      .ite (r8.fst)
      (.nonnil (y7.fst) fun p9 =>
        .load (p9.fst, p9.snd + 2) (.sl) fun s10 =>
        .nonnil (s10.fst) fun p11 =>
        .guard (((0 : Int) ≤ y7.snd.fst) ∧ ((y7.snd.fst : Int) < (↑s10.snd.fst : Int))) <|
        .load (p11.fst, p11.snd + Int.toNat y7.snd.fst) (.raw) fun v12 =>
        .done .ret [.c (.raw (v12)), .c (.tt)])
      (.bind (some 2) (.loop [.c (.int .i64), .c (.int .i64)] [.c (.int .i64 (0)), .c (.int .i64 (y7.snd.fst))] fun y13 =>
            .nonnil (y7.fst) fun p14 =>
            .load (p14.fst, p14.snd + 2) (.sl) fun s15 =>
            .ite (decide (y13.fst < (↑s15.snd.fst : Int)))
            (.nonnil (y7.fst) fun p16 =>
              .load (p16.fst, p16.snd + 3) (.ptr) fun q17 =>
              .nonnil (q17) fun p18 =>
              .load p18 (.sl) fun s19 =>
              .nonnil (s19.fst) fun p20 =>
              .guard (((0 : Int) ≤ y13.fst) ∧ ((y13.fst : Int) < (↑s19.snd.fst : Int))) <|
              .load (p20.fst, p20.snd + Int.toNat y13.fst) (.ptr) fun q21 =>
              .nonnil (q21) fun p22 =>
              .load (p22.fst, p22.snd + 1) (.int .i64) fun i23 =>
              .ite (decide (y13.snd.fst < i23))
              (.done (.exit 2) [.c (.int .i64 (y13.fst)), .c (.int .i64 (y13.snd.fst))])
              (.nonnil (y7.fst) fun p24 =>
                .load (p24.fst, p24.snd + 3) (.ptr) fun q25 =>
                .nonnil (q25) fun p26 =>
                .load p26 (.sl) fun s27 =>
                .nonnil (s27.fst) fun p28 =>
                .guard (((0 : Int) ≤ y13.fst) ∧ ((y13.fst : Int) < (↑s27.snd.fst : Int))) <|
                .load (p28.fst, p28.snd + Int.toNat y13.fst) (.ptr) fun q29 =>
                .nonnil (q29) fun p30 =>
                .load (p30.fst, p30.snd + 1) (.int .i64) fun i31 =>
                .ite (y13.snd.fst == i31)
                (.nonnil (y7.fst) fun p32 =>
                  .load (p32.fst, p32.snd + 2) (.sl) fun s33 =>
                  .nonnil (s33.fst) fun p34 =>
                  .guard (((0 : Int) ≤ y13.fst) ∧ ((y13.fst : Int) < (↑s33.snd.fst : Int))) <|
                  .load (p34.fst, p34.snd + Int.toNat y13.fst) (.raw) fun v35 =>
                  .done .ret [.c (.raw (v35)), .c (.tt)])
                (.nonnil (y7.fst) fun p36 =>
                  .load (p36.fst, p36.snd + 3) (.ptr) fun q37 =>
                  .nonnil (q37) fun p38 =>
                  .load p38 (.sl) fun s39 =>
                  .nonnil (s39.fst) fun p40 =>
                  .guard (((0 : Int) ≤ y13.fst) ∧ ((y13.fst : Int) < (↑s39.snd.fst : Int))) <|
                  .load (p40.fst, p40.snd + Int.toNat y13.fst) (.ptr) fun q41 =>
                  .nonnil (q41) fun p42 =>
                  .load (p42.fst, p42.snd + 1) (.int .i64) fun i43 =>
                  .guard (InK IntKind.i64 (i43 + 1)) <|
                  .guard (InK IntKind.i64 (y13.snd.fst - (i43 + 1))) <|
                  .guard (InK IntKind.i64 (y13.fst + 1)) <|
                  .done .normal [.c (.int .i64 (y13.fst + 1)), .c (.int .i64 (y13.snd.fst - (i43 + 1)))])))
            (.done (.exit 2) [.c (.int .i64 (y13.fst)), .c (.int .i64 (y13.snd.fst))])) [.c (.int .i64), .c (.int .i64)] fun x44 =>
        .nonnil (y7.fst) fun p45 =>
        .load (p45.fst, p45.snd + 3) (.ptr) fun q46 =>
        .nonnil (q46) fun p47 =>
        .load p47 (.sl) fun s48 =>
        .nonnil (s48.fst) fun p49 =>
        .guard (((0 : Int) ≤ x44.fst) ∧ ((x44.fst : Int) < (↑s48.snd.fst : Int))) <|
        .call fn_tb_isoLoad [.c (.addr a0), .c (.addr (p49.fst, p49.snd + Int.toNat x44.fst)), .c (.bool (a2))] false [.c (.ptr)] fun r50 =>
        .done .normal [.c (.ptr (r50.fst)), .c (.int .i64 (x44.snd.fst))]))
theorem den_tb_getAt (a0 : PA) (a1 : Int) (a2 : Bool) : denFn Try.prog Try.f132 [.c (.addr a0), .c (.int .i64 a1), .c (.bool a2)] = M_tb_getAt a0 a1 a2 := by kernel_rfl
theorem hc_tb_getAt (a0 : PA) (a1 : Int) (a2 : Bool) {h : H} {R : Value → H → Prop} (hw : wp Try.prog (M_tb_getAt a0 a1 a2) (Ret R) h) : HC Try.prog fn_tb_getAt (List.map AV.val [.c (.addr a0), .c (.int .i64 a1), .c (.bool a2)]).toArray h R :=
  den_calls hmix Try.func132 (of_decide_eq_true rfl) (by rw [den_tb_getAt]; exact hw)
def M_tb_getHint (a0 : PA) (a1 : Value) (a2 : Option PA) (a3 : Bool) : M :=
  .call fn_tb_lock [.c (.addr a0), .c (.bool (a3))] false [.c (.bool)] fun r0 =>
  .bind none (.ite (r0.fst)
    (.fail)
    (.done .normal [])) [] fun x1 =>
  .load (a0.fst, a0.snd + 2) (.ptr) fun q2 =>
  .ite (Option.isNone q2)
  (.load (a0.fst, a0.snd + 7) (.raw) fun v3 =>
    .done .ret [.c (.raw (v3)), .c (.ff)])
  (.call fn_tb_isoLoad [.c (.addr a0), .c (.addr (a0.fst, a0.snd + 2)), .c (.bool (a3))] false [.c (.ptr)] fun r4 =>
    .loop [.c (.int .i64), .c (.ptr)] [.c (.int .i64 (0)), .c (.ptr (r4.fst))] fun y5 =>
      .call fn_tb_find [.c (.addr a0), .c (.ptr (y5.snd.fst)), .c (.raw (a1)), .c (.ptr (a2)), .c (.int .i64 (y5.fst))] true [.c (.int .i64), .c (.bool)] fun r6 =>
      .ite (r6.snd.fst)
      (.nonnil (y5.snd.fst) fun p7 =>
        .load (p7.fst, p7.snd + 2) (.sl) fun s8 =>
        .nonnil (s8.fst) fun p9 =>
        .guard (((0 : Int) ≤ r6.fst) ∧ ((r6.fst : Int) < (↑s8.snd.fst : Int))) <|
        .load (p9.fst, p9.snd + Int.toNat r6.fst) (.raw) fun v10 =>
        .done .ret [.c (.raw (v10)), .c (.tt)])
      (.nonnil (y5.snd.fst) fun p11 =>
        .load (p11.fst, p11.snd + 3) (.ptr) fun q12 =>
        .ite (Option.isNone q12)
        (.load (a0.fst, a0.snd + 7) (.raw) fun v13 =>
          .done .ret [.c (.raw (v13)), .c (.ff)])
        (.nonnil (y5.snd.fst) fun p14 =>
          .load (p14.fst, p14.snd + 3) (.ptr) fun q15 =>
          .nonnil (q15) fun p16 =>
          .load p16 (.sl) fun s17 =>
          .nonnil (s17.fst) fun p18 =>
          .guard (((0 : Int) ≤ r6.fst) ∧ ((r6.fst : Int) < (↑s17.snd.fst : Int))) <|
          .call fn_tb_isoLoad [.c (.addr a0), .c (.addr (p18.fst, p18.snd + Int.toNat r6.fst)), .c (.bool (a3))] false [.c (.ptr)] fun r19 =>
          .guard (InK IntKind.i64 (y5.fst + 1)) <|
          .done .normal [.c (.int .i64 (y5.fst + 1)), .c (.ptr (r19.fst))])))
theorem den_tb_getHint (a0 : PA) (a1 : Value) (a2 : Option PA) (a3 : Bool) : denFn Try.prog Try.f152 [.c (.addr a0), .c (.raw a1), .c (.ptr a2), .c (.bool a3)] = M_tb_getHint a0 a1 a2 a3 := by kernel_rfl
theorem hc_tb_getHint (a0 : PA) (a1 : Value) (a2 : Option PA) (a3 : Bool) {h : H} {R : Value → H → Prop} (hw : wp Try.prog (M_tb_getHint a0 a1 a2 a3) (Ret R) h) : HC Try.prog fn_tb_getHint (List.map AV.val [.c (.addr a0), .c (.raw a1), .c (.ptr a2), .c (.bool a3)]).toArray h R :=
  den_calls hmix Try.func152 (of_decide_eq_true rfl) (by rw [den_tb_getHint]; exact hw)
def M_tb_nodeDescend (a0 : PA) (a1 : PA) (a2 : Value) (a3 : Option PA) (a4 : Int) (a5 : Value) (a6 : Bool) : M :=
  .call fn_tb_isoLoad [.c (.addr a0), .c (.addr a1), .c (.bool (a6))] false [.c (.ptr)] fun r0 =>
  .call fn_tb_find [.c (.addr a0), .c (.ptr (r0.fst)), .c (.raw (a2)), .c (.ptr (a3)), .c (.int .i64 (a4))] true [.c (.int .i64), .c (.bool)] fun r1 =>
  .bind none (.ite (!r1.snd.fst)
    (.call fn_nb_leaf [.c (.ptr (r0.fst))] false [.c (.bool)] fun r2 =>
      .bind none (.ite (!r2.fst)
        (.nonnil (r0.fst) fun p3 =>
          .load (p3.fst, p3.snd + 3) (.ptr) fun q4 =>
          .nonnil (q4) fun p5 =>
          .load p5 (.sl) fun s6 =>
          .nonnil (s6.fst) fun p7 =>
          .guard (((0 : Int) ≤ r1.fst) ∧ ((r1.fst : Int) < (↑s6.snd.fst : Int))) <|
          .guard (InK IntKind.i64 (a4 + 1)) <|
          .call fn_tb_nodeDescend [.c (.addr a0), .c (.addr (p7.fst, p7.snd + Int.toNat r1.fst)), .c (.raw (a2)), .c (.ptr (a3)), .c (.int .i64 (a4 + 1)), .c (.raw (a5)), .c (.bool (a6))] false [.c (.bool)] fun r8 =>
          .ite (!r8.fst)
          (.done .ret [.c (.ff)])
          (.done .normal []))
        (.done .normal [])) [] fun x9 =>
      .guard (InK IntKind.i64 (r1.fst - 1)) <|
      .done .normal [.c (.int .i64 (r1.fst - 1))])
    (.done .normal [.c (.int .i64 (r1.fst))])) [.c (.int .i64)] fun x10 =>
  .bind (some 0) (.loop [.c (.int .i64)] [.c (.int .i64 (x10.fst))] fun y11 =>
      .ite (decide (y11.fst ≥ 0))
      (.nonnil (r0.fst) fun p12 =>
        .load (p12.fst, p12.snd + 2) (.sl) fun s13 =>
        .nonnil (s13.fst) fun p14 =>
        .guard (((0 : Int) ≤ y11.fst) ∧ ((y11.fst : Int) < (↑s13.snd.fst : Int))) <|
        .load (p14.fst, p14.snd + Int.toNat y11.fst) (.raw) fun v15 =>
        .callv (a5) [.c (.raw (v15))] false [.c (.bool)] fun r16 =>
        .ite (!r16.fst)
        (.done .ret [.c (.ff)])
        (.call fn_nb_leaf [.c (.ptr (r0.fst))] false [.c (.bool)] fun r17 =>
          .bind none (.ite (!r17.fst)
            (.nonnil (r0.fst) fun p18 =>
              .load (p18.fst, p18.snd + 3) (.ptr) fun q19 =>
              .nonnil (q19) fun p20 =>
              .load p20 (.sl) fun s21 =>
              .nonnil (s21.fst) fun p22 =>
              .guard (((0 : Int) ≤ y11.fst) ∧ ((y11.fst : Int) < (↑s21.snd.fst : Int))) <|
              .call fn_tb_nodeReverse [.c (.addr a0), .c (.addr (p22.fst, p22.snd + Int.toNat y11.fst)), .c (.raw (a5)), .c (.bool (a6))] false [.c (.bool)] fun r23 =>
              .ite (!r23.fst)
              (.done .ret [.c (.ff)])
              (.done .normal []))
            (.done .normal [])) [] fun x24 =>
          .guard (InK IntKind.i64 (y11.fst - 1)) <|
          .done .normal [.c (.int .i64 (y11.fst - 1))]))
      (.done (.exit 0) [])) [] fun x25 =>
  .done .ret [.c (.tt)]
theorem den_tb_nodeDescend (a0 : PA) (a1 : PA) (a2 : Value) (a3 : Option PA) (a4 : Int) (a5 : Value) (a6 : Bool) : denFn Try.prog Try.f154 [.c (.addr a0), .c (.addr a1), .c (.raw a2), .c (.ptr a3), .c (.int .i64 a4), .c (.raw a5), .c (.bool a6)] = M_tb_nodeDescend a0 a1 a2 a3 a4 a5 a6 := by kernel_rfl
theorem hc_tb_nodeDescend (a0 : PA) (a1 : PA) (a2 : Value) (a3 : Option PA) (a4 : Int) (a5 : Value) (a6 : Bool) {h : H} {R : Value → H → Prop} (hw : wp Try.prog (M_tb_nodeDescend a0 a1 a2 a3 a4 a5 a6) (Ret R) h) : HC Try.prog fn_tb_nodeDescend (List.map AV.val [.c (.addr a0), .c (.addr a1), .c (.raw a2), .c (.ptr a3), .c (.int .i64 a4), .c (.raw a5), .c (.bool a6)]).toArray h R :=
  den_calls hmix Try.func154 (of_decide_eq_true rfl) (by rw [den_tb_nodeDescend]; exact hw)
def M_tb_nodeReverse (a0 : PA) (a1 : PA) (a2 : Value) (a3 : Bool) : M :=
  .call fn_tb_isoLoad [.c (.addr a0), .c (.addr a1), .c (.bool (a3))] false [.c (.ptr)] fun r0 =>
  .call fn_nb_leaf [.c (.ptr (r0.fst))] false [.c (.bool)] fun r1 =>
  .ite (r1.fst)
  (.nonnil (r0.fst) fun p2 =>
    .load (p2.fst, p2.snd + 2) (.sl) fun s3 =>
    .guard (InK IntKind.i64 ((↑s3.snd.fst : Int) - 1)) <|
    .bind (some 0) (.loop [.c (.int .i64)] [.c (.int .i64 ((↑s3.snd.fst : Int) - 1))] fun y4 =>
        .ite (decide (y4.fst ≥ 0))
        (.nonnil (r0.fst) fun p5 =>
          .load (p5.fst, p5.snd + 2) (.sl) fun s6 =>
          .nonnil (s6.fst) fun p7 =>
          .guard (((0 : Int) ≤ y4.fst) ∧ ((y4.fst : Int) < (↑s6.snd.fst : Int))) <|
          .load (p7.fst, p7.snd + Int.toNat y4.fst) (.raw) fun v8 =>
          .callv (a2) [.c (.raw (v8))] false [.c (.bool)] fun r9 =>
          .ite (!r9.fst)
          (.done .ret [.c (.ff)])
          (.guard (InK IntKind.i64 (y4.fst - 1)) <|
            .done .normal [.c (.int .i64 (y4.fst - 1))]))
        (.done (.exit 0) [])) [] fun x10 =>
    .done .ret [.c (.tt)])
  (.nonnil (r0.fst) fun p11 =>
    .load (p11.fst, p11.snd + 3) (.ptr) fun q12 =>
    .nonnil (q12) fun p13 =>
    .load p13 (.sl) fun s14 =>
    .nonnil (r0.fst) fun p15 =>
    .load (p15.fst, p15.snd + 3) (.ptr) fun q16 =>
    .nonnil (q16) fun p17 =>
    .load p17 (.sl) fun s18 =>
    .guard (InK IntKind.i64 ((↑s18.snd.fst : Int) - 1)) <|
    .nonnil (s14.fst) fun p19 =>
    .guard (((0 : Int) ≤ (↑s18.snd.fst : Int) - 1) ∧ (((↑s18.snd.fst : Int) - 1 : Int) < (↑s14.snd.fst : Int))) <|
    .call fn_tb_nodeReverse [.c (.addr a0), .c (.addr (p19.fst, p19.snd + ((↑s18.snd.fst : Int) - 1).toNat)), .c (.raw (a2)), .c (.bool (a3))] false [.c (.bool)] fun r20 =>
    .ite (!r20.fst)
    (.done .ret [.c (.ff)])
    (.nonnil (r0.fst) fun p21 =>
      .load (p21.fst, p21.snd + 2) (.sl) fun s22 =>
      .guard (InK IntKind.i64 ((↑s22.snd.fst : Int) - 1)) <|
      .bind (some 2) (.loop [.c (.int .i64)] [.c (.int .i64 ((↑s22.snd.fst : Int) - 1))] fun y23 =>
          .ite (decide (y23.fst ≥ 0))
          (.nonnil (r0.fst) fun p24 =>
            .load (p24.fst, p24.snd + 2) (.sl) fun s25 =>
            .nonnil (s25.fst) fun p26 =>
            .guard (((0 : Int) ≤ y23.fst) ∧ ((y23.fst : Int) < (↑s25.snd.fst : Int))) <|
            .load (p26.fst, p26.snd + Int.toNat y23.fst) (.raw) fun v27 =>
            .callv (a2) [.c (.raw (v27))] false [.c (.bool)] fun r28 =>
            .ite (!r28.fst)
            (.done .ret [.c (.ff)])
            (.nonnil (r0.fst) fun p29 =>
              .load (p29.fst, p29.snd + 3) (.ptr) fun q30 =>
              .nonnil (q30) fun p31 =>
              .load p31 (.sl) fun s32 =>
              .nonnil (s32.fst) fun p33 =>
              .guard (((0 : Int) ≤ y23.fst) ∧ ((y23.fst : Int) < (↑s32.snd.fst : Int))) <|
              .call fn_tb_nodeReverse [.c (.addr a0), .c (.addr (p33.fst, p33.snd + Int.toNat y23.fst)), .c (.raw (a2)), .c (.bool (a3))] false [.c (.bool)] fun r34 =>
              .ite (!r34.fst)
              (.done .ret [.c (.ff)])
              (.guard (InK IntKind.i64 (y23.fst - 1)) <|
                .done .normal [.c (.int .i64 (y23.fst - 1))])))
          (.done (.exit 2) [])) [] fun x35 =>
      .done .ret [.c (.tt)]))
theorem den_tb_nodeReverse (a0 : PA) (a1 : PA) (a2 : Value) (a3 : Bool) : denFn Try.prog Try.f153 [.c (.addr a0), .c (.addr a1), .c (.raw a2), .c (.bool a3)] = M_tb_nodeReverse a0 a1 a2 a3 := by kernel_rfl
theorem hc_tb_nodeReverse (a0 : PA) (a1 : PA) (a2 : Value) (a3 : Bool) {h : H} {R : Value → H → Prop} (hw : wp Try.prog (M_tb_nodeReverse a0 a1 a2 a3) (Ret R) h) : HC Try.prog fn_tb_nodeReverse (List.map AV.val [.c (.addr a0), .c (.addr a1), .c (.raw a2), .c (.bool a3)]).toArray h R :=
  den_calls hmix Try.func153 (of_decide_eq_true rfl) (by rw [den_tb_nodeReverse]; exact hw)
def M_tb_reverse (a0 : PA) (a1 : Value) (a2 : Bool) : M :=
  .call fn_tb_lock [.c (.addr a0), .c (.bool (a2))] false [.c (.bool)] fun r0 =>
  .bind none (.ite (r0.fst)
    (.fail)
    (.done .normal [])) [] fun x1 =>
  .load (a0.fst, a0.snd + 2) (.ptr) fun q2 =>
  .ite (Option.isNone q2)
  (.done .ret [])
  (.call fn_tb_nodeReverse [.c (.addr a0), .c (.addr (a0.fst, a0.snd + 2)), .c (.raw (a1)), .c (.bool (a2))] false [.c (.bool)] fun r3 =>
    .done .ret [])
theorem den_tb_reverse (a0 : PA) (a1 : Value) (a2 : Bool) : denFn Try.prog Try.f136 [.c (.addr a0), .c (.raw a1), .c (.bool a2)] = M_tb_reverse a0 a1 a2 := by kernel_rfl
theorem hc_tb_reverse (a0 : PA) (a1 : Value) (a2 : Bool) {h : H} {R : Value → H → Prop} (hw : wp Try.prog (M_tb_reverse a0 a1 a2) (Ret R) h) : HC Try.prog fn_tb_reverse (List.map AV.val [.c (.addr a0), .c (.raw a1), .c (.bool a2)]).toArray h R :=
  den_calls hmix Try.func136 (of_decide_eq_true rfl) (by rw [den_tb_reverse]; exact hw)
end Go.Proofs.Ytlhbdmjeomffhaa
