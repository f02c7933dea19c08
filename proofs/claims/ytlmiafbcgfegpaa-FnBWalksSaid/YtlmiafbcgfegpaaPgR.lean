/-
  Functions of the translation as typed programs, and that each is its function's reading. Written by a program of ours (gen2.py). Conditions: none.
-/
import Derived.Test.YtlmiafbcgfegpaaNm
namespace Go.Proofs.Ytlmiafbcgfegpaa
open Go
set_option maxRecDepth 100000
set_option linter.unusedVariables false
def M_tb_Scan (a0 : PA) (a1 : Value) : M :=
  .call fn_tb_scan [.c (.addr a0), .c (.raw (a1)), .c (.ff)] true [] fun r0 =>
  .done .ret []
theorem den_tb_Scan (a0 : PA) (a1 : Value) : denFn Try.prog Try.f131 [.c (.addr a0), .c (.raw a1)] = M_tb_Scan a0 a1 := by kernel_rfl
theorem hc_tb_Scan (a0 : PA) (a1 : Value) {h : H} {R : Value → H → Prop} (hw : wp Try.prog (M_tb_Scan a0 a1) (Ret R) h) : HC Try.prog fn_tb_Scan (List.map AV.val [.c (.addr a0), .c (.raw a1)]).toArray h R :=
  den_calls hmix Try.func131 (of_decide_eq_true rfl) (by rw [den_tb_Scan]; exact hw)
def M_tb_Walk (a0 : PA) (a1 : Value) : M :=
  .call fn_tb_walk [.c (.addr a0), .c (.raw (a1)), .c (.ff)] true [] fun r0 =>
  .done .ret []
theorem den_tb_Walk (a0 : PA) (a1 : Value) : denFn Try.prog Try.f60 [.c (.addr a0), .c (.raw a1)] = M_tb_Walk a0 a1 := by kernel_rfl
theorem hc_tb_Walk (a0 : PA) (a1 : Value) {h : H} {R : Value → H → Prop} (hw : wp Try.prog (M_tb_Walk a0 a1) (Ret R) h) : HC Try.prog fn_tb_Walk (List.map AV.val [.c (.addr a0), .c (.raw a1)]).toArray h R :=
  den_calls hmix Try.func60 (of_decide_eq_true rfl) (by rw [den_tb_Walk]; exact hw)
def M_tb_WalkMut (a0 : PA) (a1 : Value) : M :=
  .call fn_tb_walk [.c (.addr a0), .c (.raw (a1)), .c (.tt)] true [] fun r0 =>
  .done .ret []
theorem den_tb_WalkMut (a0 : PA) (a1 : Value) : denFn Try.prog Try.f63 [.c (.addr a0), .c (.raw a1)] = M_tb_WalkMut a0 a1 := by kernel_rfl
theorem hc_tb_WalkMut (a0 : PA) (a1 : Value) {h : H} {R : Value → H → Prop} (hw : wp Try.prog (M_tb_WalkMut a0 a1) (Ret R) h) : HC Try.prog fn_tb_WalkMut (List.map AV.val [.c (.addr a0), .c (.raw a1)]).toArray h R :=
  den_calls hmix Try.func63 (of_decide_eq_true rfl) (by rw [den_tb_WalkMut]; exact hw)
def M_tb_nodeScan (a0 : PA) (a1 : PA) (a2 : Value) (a3 : Bool) : M :=
  .call fn_tb_isoLoad [.c (.addr a0), .c (.addr a1), .c (.bool (a3))] false [.c (.ptr)] fun r0 =>
  .call fn_nb_leaf [.c (.ptr (r0.fst))] false [.c (.bool)] fun r1 =>
  .ite (r1.fst)
  (.bind (some 0) (.loop [.c (.int .i64)] [.c (.int .i64 (0))] fun y2 =>
        .nonnil (r0.fst) fun p3 =>
        .load (p3.fst, p3.snd + 2) (.sl) fun s4 =>
        .ite (decide (y2.fst < (↑s4.snd.fst : Int)))
        (.nonnil (r0.fst) fun p5 =>
          .load (p5.fst, p5.snd + 2) (.sl) fun s6 =>
          .nonnil (s6.fst) fun p7 =>
          .guard (((0 : Int) ≤ y2.fst) ∧ ((y2.fst : Int) < (↑s6.snd.fst : Int))) <|
          .load (p7.fst, p7.snd + Int.toNat y2.fst) (.raw) fun v8 =>
          .callv (a2) [.c (.raw (v8))] false [.c (.bool)] fun r9 =>
          .ite (!r9.fst)
          (.done .ret [.c (.ff)])
          (.guard (InK IntKind.i64 (y2.fst + 1)) <|
            .done .normal [.c (.int .i64 (y2.fst + 1))]))
        (.done (.exit 0) [])) [] fun x10 =>
    .done .ret [.c (.tt)])
  (.bind (some 2) (.loop [.c (.int .i64)] [.c (.int .i64 (0))] fun y11 =>
        .nonnil (r0.fst) fun p12 =>
        .load (p12.fst, p12.snd + 2) (.sl) fun s13 =>
        .ite (decide (y11.fst < (↑s13.snd.fst : Int)))
        (.nonnil (r0.fst) fun p14 =>
          .load (p14.fst, p14.snd + 3) (.ptr) fun q15 =>
          .nonnil (q15) fun p16 =>
          .load p16 (.sl) fun s17 =>
          .nonnil (s17.fst) fun p18 =>
          .guard (((0 : Int) ≤ y11.fst) ∧ ((y11.fst : Int) < (↑s17.snd.fst : Int))) <|
          .call fn_tb_nodeScan [.c (.addr a0), .c (.addr (p18.fst, p18.snd + Int.toNat y11.fst)), .c (.raw (a2)), .c (.bool (a3))] false [.c (.bool)] fun r19 =>
          .ite (!r19.fst)
          (.done .ret [.c (.ff)])
          (.nonnil (r0.fst) fun p20 =>
            .load (p20.fst, p20.snd + 2) (.sl) fun s21 =>
            .nonnil (s21.fst) fun p22 =>
            .guard (((0 : Int) ≤ y11.fst) ∧ ((y11.fst : Int) < (↑s21.snd.fst : Int))) <|
            .load (p22.fst, p22.snd + Int.toNat y11.fst) (.raw) fun v23 =>
            .callv (a2) [.c (.raw (v23))] false [.c (.bool)] fun r24 =>
            .ite (!r24.fst)
            (.done .ret [.c (.ff)])
            (.guard (InK IntKind.i64 (y11.fst + 1)) <|
              .done .normal [.c (.int .i64 (y11.fst + 1))])))
        (.done (.exit 2) [])) [] fun x25 =>
    .nonnil (r0.fst) fun p26 =>
    .load (p26.fst, p26.snd + 3) (.ptr) fun q27 =>
    .nonnil (q27) fun p28 =>
    .load p28 (.sl) fun s29 =>
    .nonnil (r0.fst) fun p30 =>
    .load (p30.fst, p30.snd + 3) (.ptr) fun q31 =>
    .nonnil (q31) fun p32 =>
    .load p32 (.sl) fun s33 =>
    .guard (InK IntKind.i64 ((↑s33.snd.fst : Int) - 1)) <|
    .nonnil (s29.fst) fun p34 =>
    .guard (((0 : Int) ≤ (↑s33.snd.fst : Int) - 1) ∧ (((↑s33.snd.fst : Int) - 1 : Int) < (↑s29.snd.fst : Int))) <|
    .call fn_tb_nodeScan [.c (.addr a0), .c (.addr (p34.fst, p34.snd + ((↑s33.snd.fst : Int) - 1).toNat)), .c (.raw (a2)), .c (.bool (a3))] false [.c (.bool)] fun r35 =>
    .done .ret [.c (.bool (r35.fst))])
theorem den_tb_nodeScan (a0 : PA) (a1 : PA) (a2 : Value) (a3 : Bool) : denFn Try.prog Try.f172 [.c (.addr a0), .c (.addr a1), .c (.raw a2), .c (.bool a3)] = M_tb_nodeScan a0 a1 a2 a3 := by kernel_rfl
theorem hc_tb_nodeScan (a0 : PA) (a1 : PA) (a2 : Value) (a3 : Bool) {h : H} {R : Value → H → Prop} (hw : wp Try.prog (M_tb_nodeScan a0 a1 a2 a3) (Ret R) h) : HC Try.prog fn_tb_nodeScan (List.map AV.val [.c (.addr a0), .c (.addr a1), .c (.raw a2), .c (.bool a3)]).toArray h R :=
  den_calls hmix Try.func172 (of_decide_eq_true rfl) (by rw [den_tb_nodeScan]; exact hw)
def M_tb_nodeWalk (a0 : PA) (a1 : PA) (a2 : Value) (a3 : Bool) : M :=
  .call fn_tb_isoLoad [.c (.addr a0), .c (.addr a1), .c (.bool (a3))] false [.c (.ptr)] fun r0 =>
  .call fn_nb_leaf [.c (.ptr (r0.fst))] false [.c (.bool)] fun r1 =>
  .bind none (.ite (r1.fst)
    (.nonnil (r0.fst) fun p2 =>
      .load (p2.fst, p2.snd + 2) (.sl) fun s3 =>
      .callv (a2) [.c (.sl (s3.fst) (s3.snd.fst) (s3.snd.snd))] false [.c (.bool)] fun r4 =>
      .ite (!r4.fst)
      (.done .ret [.c (.ff)])
      (.done .normal []))
    (.bind (some 0) (.loop [.c (.int .i64)] [.c (.int .i64 (0))] fun y5 =>
          .nonnil (r0.fst) fun p6 =>
          .load (p6.fst, p6.snd + 2) (.sl) fun s7 =>
          .ite (decide (y5.fst < (↑s7.snd.fst : Int)))
          (.nonnil (r0.fst) fun p8 =>
            .load (p8.fst, p8.snd + 3) (.ptr) fun q9 =>
            .nonnil (q9) fun p10 =>
            .load p10 (.sl) fun s11 =>
            .nonnil (s11.fst) fun p12 =>
            .guard (((0 : Int) ≤ y5.fst) ∧ ((y5.fst : Int) < (↑s11.snd.fst : Int))) <|
            .call fn_tb_nodeWalk [.c (.addr a0), .c (.addr (p12.fst, p12.snd + Int.toNat y5.fst)), .c (.raw (a2)), .c (.bool (a3))] false [.c (.bool)] fun r13 =>
            .ite (!r13.fst)
            (.done .ret [.c (.ff)])
            (.nonnil (r0.fst) fun p14 =>
              .load (p14.fst, p14.snd + 2) (.sl) fun s15 =>
              .guard (InK IntKind.i64 (y5.fst + 1)) <|
              .guard ((((0 : Int) ≤ y5.fst + 1) ∧ ((y5.fst + 1 : Int) ≤ (↑s15.snd.snd : Int))) ∧ (((0 : Int) ≤ y5.fst) ∧ ((y5.fst : Int) ≤ (↑(y5.fst + 1).toNat : Int)))) <|
              .callv (a2) [.c (.sl (slBase s15.fst s15.snd.snd (Int.toNat y5.fst) 1) ((y5.fst + 1).toNat - Int.toNat y5.fst) (s15.snd.snd - Int.toNat y5.fst))] false [.c (.bool)] fun r16 =>
              .ite (!r16.fst)
              (.done .ret [.c (.ff)])
              (.guard (InK IntKind.i64 (y5.fst + 1)) <|
                .done .normal [.c (.int .i64 (y5.fst + 1))])))
          (.done (.exit 0) [])) [] fun x17 =>
      .nonnil (r0.fst) fun p18 =>
      .load (p18.fst, p18.snd + 3) (.ptr) fun q19 =>
      .nonnil (q19) fun p20 =>
      .load p20 (.sl) fun s21 =>
      .nonnil (r0.fst) fun p22 =>
      .load (p22.fst, p22.snd + 2) (.sl) fun s23 =>
      .nonnil (s21.fst) fun p24 =>
      .guard (((0 : Int) ≤ (↑s23.snd.fst : Int)) ∧ (((↑s23.snd.fst : Int) : Int) < (↑s21.snd.fst : Int))) <|
      .call fn_tb_nodeWalk [.c (.addr a0), .c (.addr (p24.fst, p24.snd + (↑s23.snd.fst : Int).toNat)), .c (.raw (a2)), .c (.bool (a3))] false [.c (.bool)] fun r25 =>
      .ite (!r25.fst)
      (.done .ret [.c (.ff)])
      (.done .normal []))) [] fun x26 =>
  .done .ret [.c (.tt)]
theorem den_tb_nodeWalk (a0 : PA) (a1 : PA) (a2 : Value) (a3 : Bool) : denFn Try.prog Try.f137 [.c (.addr a0), .c (.addr a1), .c (.raw a2), .c (.bool a3)] = M_tb_nodeWalk a0 a1 a2 a3 := by kernel_rfl
theorem hc_tb_nodeWalk (a0 : PA) (a1 : PA) (a2 : Value) (a3 : Bool) {h : H} {R : Value → H → Prop} (hw : wp Try.prog (M_tb_nodeWalk a0 a1 a2 a3) (Ret R) h) : HC Try.prog fn_tb_nodeWalk (List.map AV.val [.c (.addr a0), .c (.addr a1), .c (.raw a2), .c (.bool a3)]).toArray h R :=
  den_calls hmix Try.func137 (of_decide_eq_true rfl) (by rw [den_tb_nodeWalk]; exact hw)
def M_tb_scan (a0 : PA) (a1 : Value) (a2 : Bool) : M :=
  .call fn_tb_lock [.c (.addr a0), .c (.bool (a2))] false [.c (.bool)] fun r0 =>
  .bind none (.ite (r0.fst)
    (.fail)
    (.done .normal [])) [] fun x1 =>
  .load (a0.fst, a0.snd + 2) (.ptr) fun q2 =>
  .ite (Option.isNone q2)
  (.done .ret [])
  (.call fn_tb_nodeScan [.c (.addr a0), .c (.addr (a0.fst, a0.snd + 2)), .c (.raw (a1)), .c (.bool (a2))] false [.c (.bool)] fun r3 =>
    .done .ret [])
theorem den_tb_scan (a0 : PA) (a1 : Value) (a2 : Bool) : denFn Try.prog Try.f157 [.c (.addr a0), .c (.raw a1), .c (.bool a2)] = M_tb_scan a0 a1 a2 := by kernel_rfl
theorem hc_tb_scan (a0 : PA) (a1 : Value) (a2 : Bool) {h : H} {R : Value → H → Prop} (hw : wp Try.prog (M_tb_scan a0 a1 a2) (Ret R) h) : HC Try.prog fn_tb_scan (List.map AV.val [.c (.addr a0), .c (.raw a1), .c (.bool a2)]).toArray h R :=
  den_calls hmix Try.func157 (of_decide_eq_true rfl) (by rw [den_tb_scan]; exact hw)
def M_tb_walk (a0 : PA) (a1 : Value) (a2 : Bool) : M :=
  .call fn_tb_lock [.c (.addr a0), .c (.bool (a2))] false [.c (.bool)] fun r0 =>
  .bind none (.ite (r0.fst)
    (.fail)
    (.done .normal [])) [] fun x1 =>
  .load (a0.fst, a0.snd + 2) (.ptr) fun q2 =>
  .ite (Option.isNone q2)
  (.done .ret [])
  (.call fn_tb_nodeWalk [.c (.addr a0), .c (.addr (a0.fst, a0.snd + 2)), .c (.raw (a1)), .c (.bool (a2))] false [.c (.bool)] fun r3 =>
    .done .ret [])
theorem den_tb_walk (a0 : PA) (a1 : Value) (a2 : Bool) : denFn Try.prog Try.f87 [.c (.addr a0), .c (.raw a1), .c (.bool a2)] = M_tb_walk a0 a1 a2 := by kernel_rfl
theorem hc_tb_walk (a0 : PA) (a1 : Value) (a2 : Bool) {h : H} {R : Value → H → Prop} (hw : wp Try.prog (M_tb_walk a0 a1 a2) (Ret R) h) : HC Try.prog fn_tb_walk (List.map AV.val [.c (.addr a0), .c (.raw a1), .c (.bool a2)]).toArray h R :=
  den_calls hmix Try.func87 (of_decide_eq_true rfl) (by rw [den_tb_walk]; exact hw)
end Go.Proofs.Ytlmiafbcgfegpaa
