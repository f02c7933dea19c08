/-
  Functions of the translation as typed programs, and that each is its function's reading. Written by a program of ours (gen2.py). Conditions: none.
-/
import Derived.Test.YtgniflegbdeokaaNm
namespace Go.Proofs.Ytgniflegbdeokaa
open Go
set_option maxRecDepth 100000
set_option linter.unusedVariables false
def M_mw_Ascend (a0 : PA) (a1 : ByteArray) (a2 : Value) : M :=
  .call fn_mw_ascend [.c (.addr a0), .c (.str (a1)), .c (.raw (a2)), .c (.ff)] true [] fun r0 =>
  .done .ret []
theorem den_mw_Ascend (a0 : PA) (a1 : ByteArray) (a2 : Value) : denFn Try.prog Try.f67 [.c (.addr a0), .c (.str a1), .c (.raw a2)] = M_mw_Ascend a0 a1 a2 := by kernel_rfl
theorem hc_mw_Ascend (a0 : PA) (a1 : ByteArray) (a2 : Value) {h : H} {R : Value → H → Prop} (hw : wp Try.prog (M_mw_Ascend a0 a1 a2) (Ret R) h) : HC Try.prog fn_mw_Ascend (List.map AV.val [.c (.addr a0), .c (.str a1), .c (.raw a2)]).toArray h R :=
  den_calls hmix Try.func67 (of_decide_eq_true rfl) (by rw [den_mw_Ascend]; exact hw)
def M_mw_Scan (a0 : PA) (a1 : Value) : M :=
  .call fn_mw_scan [.c (.addr a0), .c (.raw (a1)), .c (.ff)] true [] fun r0 =>
  .done .ret []
theorem den_mw_Scan (a0 : PA) (a1 : Value) : denFn Try.prog Try.f115 [.c (.addr a0), .c (.raw a1)] = M_mw_Scan a0 a1 := by kernel_rfl
theorem hc_mw_Scan (a0 : PA) (a1 : Value) {h : H} {R : Value → H → Prop} (hw : wp Try.prog (M_mw_Scan a0 a1) (Ret R) h) : HC Try.prog fn_mw_Scan (List.map AV.val [.c (.addr a0), .c (.raw a1)]).toArray h R :=
  den_calls hmix Try.func115 (of_decide_eq_true rfl) (by rw [den_mw_Scan]; exact hw)
def M_mw_ascend (a0 : PA) (a1 : ByteArray) (a2 : Value) (a3 : Bool) : M :=
  .load (a0.fst, a0.snd + 2) (.ptr) fun q0 =>
  .ite (Option.isNone q0)
  (.done .ret [])
  (.call fn_mw_nodeAscend [.c (.addr a0), .c (.addr (a0.fst, a0.snd + 2)), .c (.str (a1)), .c (.raw (a2)), .c (.bool (a3))] false [.c (.bool)] fun r1 =>
    .done .ret [])
theorem den_mw_ascend (a0 : PA) (a1 : ByteArray) (a2 : Value) (a3 : Bool) : denFn Try.prog Try.f105 [.c (.addr a0), .c (.str a1), .c (.raw a2), .c (.bool a3)] = M_mw_ascend a0 a1 a2 a3 := by kernel_rfl
theorem hc_mw_ascend (a0 : PA) (a1 : ByteArray) (a2 : Value) (a3 : Bool) {h : H} {R : Value → H → Prop} (hw : wp Try.prog (M_mw_ascend a0 a1 a2 a3) (Ret R) h) : HC Try.prog fn_mw_ascend (List.map AV.val [.c (.addr a0), .c (.str a1), .c (.raw a2), .c (.bool a3)]).toArray h R :=
  den_calls hmix Try.func105 (of_decide_eq_true rfl) (by rw [den_mw_ascend]; exact hw)
def M_mw_nodeAscend (a0 : PA) (a1 : PA) (a2 : ByteArray) (a3 : Value) (a4 : Bool) : M :=
  .call fn_mw_isoLoad [.c (.addr a0), .c (.addr a1), .c (.bool (a4))] false [.c (.ptr)] fun r0 =>
  .call fn_mw_search [.c (.addr a0), .c (.ptr (r0.fst)), .c (.str (a2))] true [.c (.int .i64), .c (.bool)] fun r1 =>
  .bind none (.ite (!r1.snd.fst)
    (.call fn_nw_leaf [.c (.ptr (r0.fst))] false [.c (.bool)] fun r2 =>
      .bind none (.ite (!r2.fst)
        (.nonnil (r0.fst) fun p3 =>
          .load (p3.fst, p3.snd + 3) (.ptr) fun q4 =>
          .nonnil (q4) fun p5 =>
          .load p5 (.sl) fun s6 =>
          .nonnil (s6.fst) fun p7 =>
          .guard (((0 : Int) ≤ r1.fst) ∧ ((r1.fst : Int) < (↑s6.snd.fst : Int))) <|
          .call fn_mw_nodeAscend [.c (.addr a0), .c (.addr (p7.fst, p7.snd + Int.toNat r1.fst)), .c (.str (a2)), .c (.raw (a3)), .c (.bool (a4))] false [.c (.bool)] fun r8 =>
          .ite (!r8.fst)
          (.done .ret [.c (.ff)])
          (.done .normal []))
        (.done .normal [])) [] fun x9 =>
      .done .normal [])
    (.done .normal [])) [] fun x10 =>
  .bind (some 0) (.loop [.c (.int .i64)] [.c (.int .i64 (r1.fst))] fun y11 =>
      .nonnil (r0.fst) fun p12 =>
      .load (p12.fst, p12.snd + 2) (.sl) fun s13 =>
      .ite (decide (y11.fst < (↑s13.snd.fst : Int)))
      (.nonnil (r0.fst) fun p14 =>
        .load (p14.fst, p14.snd + 2) (.sl) fun s15 =>
        .nonnil (s15.fst) fun p16 =>
        .guard (((0 : Int) ≤ y11.fst) ∧ ((y11.fst : Int) < (↑s15.snd.fst : Int))) <|
        .load (p16.fst, p16.snd + mulN (Int.toNat y11.fst) 2 + 1) (.str) fun i17 =>
        .nonnil (r0.fst) fun p18 =>
        .load (p18.fst, p18.snd + 2) (.sl) fun s19 =>
        .nonnil (s19.fst) fun p20 =>
        .guard (((0 : Int) ≤ y11.fst) ∧ ((y11.fst : Int) < (↑s19.snd.fst : Int))) <|
        .load (p20.fst, p20.snd + mulN (Int.toNat y11.fst) 2) (.int .i64) fun i21 =>
        .callv (a3) [.c (.str (i17)), .c (.int .i64 (i21))] false [.c (.bool)] fun r22 =>
        .ite (!r22.fst)
        (.done .ret [.c (.ff)])
        (.call fn_nw_leaf [.c (.ptr (r0.fst))] false [.c (.bool)] fun r23 =>
          .bind none (.ite (!r23.fst)
            (.nonnil (r0.fst) fun p24 =>
              .load (p24.fst, p24.snd + 3) (.ptr) fun q25 =>
              .nonnil (q25) fun p26 =>
              .load p26 (.sl) fun s27 =>
              .guard (InK IntKind.i64 (y11.fst + 1)) <|
              .nonnil (s27.fst) fun p28 =>
              .guard (((0 : Int) ≤ y11.fst + 1) ∧ ((y11.fst + 1 : Int) < (↑s27.snd.fst : Int))) <|
              .call fn_mw_nodeScan [.c (.addr a0), .c (.addr (p28.fst, p28.snd + (y11.fst + 1).toNat)), .c (.raw (a3)), .c (.bool (a4))] false [.c (.bool)] fun r29 =>
              .ite (!r29.fst)
              (.done .ret [.c (.ff)])
              (.done .normal []))
            (.done .normal [])) [] fun x30 =>
          .guard (InK IntKind.i64 (y11.fst + 1)) <|
          .done .normal [.c (.int .i64 (y11.fst + 1))]))
      (.done (.exit 0) [])) [] fun x31 =>
  .done .ret [.c (.tt)]
theorem den_mw_nodeAscend (a0 : PA) (a1 : PA) (a2 : ByteArray) (a3 : Value) (a4 : Bool) : denFn Try.prog Try.f137 [.c (.addr a0), .c (.addr a1), .c (.str a2), .c (.raw a3), .c (.bool a4)] = M_mw_nodeAscend a0 a1 a2 a3 a4 := by kernel_rfl
theorem hc_mw_nodeAscend (a0 : PA) (a1 : PA) (a2 : ByteArray) (a3 : Value) (a4 : Bool) {h : H} {R : Value → H → Prop} (hw : wp Try.prog (M_mw_nodeAscend a0 a1 a2 a3 a4) (Ret R) h) : HC Try.prog fn_mw_nodeAscend (List.map AV.val [.c (.addr a0), .c (.addr a1), .c (.str a2), .c (.raw a3), .c (.bool a4)]).toArray h R :=
  den_calls hmix Try.func137 (of_decide_eq_true rfl) (by rw [den_mw_nodeAscend]; exact hw)
def M_mw_nodeScan (a0 : PA) (a1 : PA) (a2 : Value) (a3 : Bool) : M :=
  .call fn_mw_isoLoad [.c (.addr a0), .c (.addr a1), .c (.bool (a3))] false [.c (.ptr)] fun r0 =>
  .call fn_nw_leaf [.c (.ptr (r0.fst))] false [.c (.bool)] fun r1 =>
  .ite (r1.fst)
  (.bind (some 0) (.loop [.c (.int .i64)] [.c (.int .i64 (0))] fun y2 =>
        .nonnil (r0.fst) fun p3 =>
        .load (p3.fst, p3.snd + 2) (.sl) fun s4 =>
        .ite (decide (y2.fst < (↑s4.snd.fst : Int)))
        (.nonnil (r0.fst) fun p5 =>
          .load (p5.fst, p5.snd + 2) (.sl) fun s6 =>
          .nonnil (s6.fst) fun p7 =>
          .guard (((0 : Int) ≤ y2.fst) ∧ ((y2.fst : Int) < (↑s6.snd.fst : Int))) <|
          .load (p7.fst, p7.snd + mulN (Int.toNat y2.fst) 2 + 1) (.str) fun i8 =>
          .nonnil (r0.fst) fun p9 =>
          .load (p9.fst, p9.snd + 2) (.sl) fun s10 =>
          .nonnil (s10.fst) fun p11 =>
          .guard (((0 : Int) ≤ y2.fst) ∧ ((y2.fst : Int) < (↑s10.snd.fst : Int))) <|
          .load (p11.fst, p11.snd + mulN (Int.toNat y2.fst) 2) (.int .i64) fun i12 =>
          .callv (a2) [.c (.str (i8)), .c (.int .i64 (i12))] false [.c (.bool)] fun r13 =>
          .ite (!r13.fst)
          (.done .ret [.c (.ff)])
          (.guard (InK IntKind.i64 (y2.fst + 1)) <|
            .done .normal [.c (.int .i64 (y2.fst + 1))]))
        (.done (.exit 0) [])) [] fun x14 =>
    .done .ret [.c (.tt)])
  (.bind (some 2) (.loop [.c (.int .i64)] [.c (.int .i64 (0))] fun y15 =>
        .nonnil (r0.fst) fun p16 =>
        .load (p16.fst, p16.snd + 2) (.sl) fun s17 =>
        .ite (decide (y15.fst < (↑s17.snd.fst : Int)))
        (.nonnil (r0.fst) fun p18 =>
          .load (p18.fst, p18.snd + 3) (.ptr) fun q19 =>
          .nonnil (q19) fun p20 =>
          .load p20 (.sl) fun s21 =>
          .nonnil (s21.fst) fun p22 =>
          .guard (((0 : Int) ≤ y15.fst) ∧ ((y15.fst : Int) < (↑s21.snd.fst : Int))) <|
          .call fn_mw_nodeScan [.c (.addr a0), .c (.addr (p22.fst, p22.snd + Int.toNat y15.fst)), .c (.raw (a2)), .c (.bool (a3))] false [.c (.bool)] fun r23 =>
          .ite (!r23.fst)
          (.done .ret [.c (.ff)])
          (.nonnil (r0.fst) fun p24 =>
            .load (p24.fst, p24.snd + 2) (.sl) fun s25 =>
            .nonnil (s25.fst) fun p26 =>
            .guard (((0 : Int) ≤ y15.fst) ∧ ((y15.fst : Int) < (↑s25.snd.fst : Int))) <|
            .load (p26.fst, p26.snd + mulN (Int.toNat y15.fst) 2 + 1) (.str) fun i27 =>
            .nonnil (r0.fst) fun p28 =>
            .load (p28.fst, p28.snd + 2) (.sl) fun s29 =>
            .nonnil (s29.fst) fun p30 =>
            .guard (((0 : Int) ≤ y15.fst) ∧ ((y15.fst : Int) < (↑s29.snd.fst : Int))) <|
            .load (p30.fst, p30.snd + mulN (Int.toNat y15.fst) 2) (.int .i64) fun i31 =>
            .callv (a2) [.c (.str (i27)), .c (.int .i64 (i31))] false [.c (.bool)] fun r32 =>
            .ite (!r32.fst)
            (.done .ret [.c (.ff)])
            (.guard (InK IntKind.i64 (y15.fst + 1)) <|
              .done .normal [.c (.int .i64 (y15.fst + 1))])))
        (.done (.exit 2) [])) [] fun x33 =>
    .nonnil (r0.fst) fun p34 =>
    .load (p34.fst, p34.snd + 3) (.ptr) fun q35 =>
    .nonnil (q35) fun p36 =>
    .load p36 (.sl) fun s37 =>
    .nonnil (r0.fst) fun p38 =>
    .load (p38.fst, p38.snd + 3) (.ptr) fun q39 =>
    .nonnil (q39) fun p40 =>
    .load p40 (.sl) fun s41 =>
    .guard (InK IntKind.i64 ((↑s41.snd.fst : Int) - 1)) <|
    .nonnil (s37.fst) fun p42 =>
    .guard (((0 : Int) ≤ (↑s41.snd.fst : Int) - 1) ∧ (((↑s41.snd.fst : Int) - 1 : Int) < (↑s37.snd.fst : Int))) <|
    .call fn_mw_nodeScan [.c (.addr a0), .c (.addr (p42.fst, p42.snd + ((↑s41.snd.fst : Int) - 1).toNat)), .c (.raw (a2)), .c (.bool (a3))] false [.c (.bool)] fun r43 =>
    .done .ret [.c (.bool (r43.fst))])
theorem den_mw_nodeScan (a0 : PA) (a1 : PA) (a2 : Value) (a3 : Bool) : denFn Try.prog Try.f152 [.c (.addr a0), .c (.addr a1), .c (.raw a2), .c (.bool a3)] = M_mw_nodeScan a0 a1 a2 a3 := by kernel_rfl
theorem hc_mw_nodeScan (a0 : PA) (a1 : PA) (a2 : Value) (a3 : Bool) {h : H} {R : Value → H → Prop} (hw : wp Try.prog (M_mw_nodeScan a0 a1 a2 a3) (Ret R) h) : HC Try.prog fn_mw_nodeScan (List.map AV.val [.c (.addr a0), .c (.addr a1), .c (.raw a2), .c (.bool a3)]).toArray h R :=
  den_calls hmix Try.func152 (of_decide_eq_true rfl) (by rw [den_mw_nodeScan]; exact hw)
def M_mw_scan (a0 : PA) (a1 : Value) (a2 : Bool) : M :=
  .load (a0.fst, a0.snd + 2) (.ptr) fun q0 =>
  .ite (Option.isNone q0)
  (.done .ret [])
  (.call fn_mw_nodeScan [.c (.addr a0), .c (.addr (a0.fst, a0.snd + 2)), .c (.raw (a1)), .c (.bool (a2))] false [.c (.bool)] fun r1 =>
    .done .ret [])
theorem den_mw_scan (a0 : PA) (a1 : Value) (a2 : Bool) : denFn Try.prog Try.f144 [.c (.addr a0), .c (.raw a1), .c (.bool a2)] = M_mw_scan a0 a1 a2 := by kernel_rfl
theorem hc_mw_scan (a0 : PA) (a1 : Value) (a2 : Bool) {h : H} {R : Value → H → Prop} (hw : wp Try.prog (M_mw_scan a0 a1 a2) (Ret R) h) : HC Try.prog fn_mw_scan (List.map AV.val [.c (.addr a0), .c (.raw a1), .c (.bool a2)]).toArray h R :=
  den_calls hmix Try.func144 (of_decide_eq_true rfl) (by rw [den_mw_scan]; exact hw)
end Go.Proofs.Ytgniflegbdeokaa
