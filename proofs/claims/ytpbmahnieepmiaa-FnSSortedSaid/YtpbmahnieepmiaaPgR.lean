/-
  Functions of the translation as typed programs, and that each is its function's reading. Written by a program of ours (gen2.py). Conditions: none.
-/
import Derived.Test.YtpbmahnieepmiaaNm
namespace Go.Proofs.Ytpbmahnieepmiaa
open Go
set_option maxRecDepth 100000
set_option linter.unusedVariables false
def M_ms_Keys (a0 : PA) : M :=
  .call fn_ms_Len [.c (.addr a0)] false [.c (.int .i64)] fun r0 =>
  .make ty_int 1 8 [.int .i64 (0)] (0) (r0.fst) fun s1 =>
  .load (a0.fst, a0.snd + 2) (.ptr) fun q2 =>
  .bind none (.ite (!Option.isNone q2)
    (.load (a0.fst, a0.snd + 2) (.ptr) fun q3 =>
      .call fn_ns_keys [.c (.ptr (q3)), .c (.sl (s1.fst) (s1.snd.fst) (s1.snd.snd))] false [.c (.sl)] fun r4 =>
      .done .normal [.c (.sl (r4.fst.fst) (r4.fst.snd.fst) (r4.fst.snd.snd))])
    (.done .normal [.c (.sl (s1.fst) (s1.snd.fst) (s1.snd.snd))])) [.c (.sl)] fun x5 =>
  .done .ret [.c (.sl (x5.fst.fst) (x5.fst.snd.fst) (x5.fst.snd.snd))]
theorem den_ms_Keys (a0 : PA) : denFn Try.prog Try.f69 [.c (.addr a0)] = M_ms_Keys a0 := by kernel_rfl
theorem hc_ms_Keys (a0 : PA) {h : H} {R : Value → H → Prop} (hw : wp Try.prog (M_ms_Keys a0) (Ret R) h) : HC Try.prog fn_ms_Keys (List.map AV.val [.c (.addr a0)]).toArray h R :=
  den_calls hmix Try.func69 (of_decide_eq_true rfl) (by rw [den_ms_Keys]; exact hw)
def M_ms_Len (a0 : PA) : M :=
  .load (a0.fst, a0.snd + 3) (.int .i64) fun i0 =>
  .done .ret [.c (.int .i64 (i0))]
theorem den_ms_Len (a0 : PA) : denFn Try.prog Try.f75 [.c (.addr a0)] = M_ms_Len a0 := by kernel_rfl
theorem hc_ms_Len (a0 : PA) {h : H} {R : Value → H → Prop} (hw : wp Try.prog (M_ms_Len a0) (Ret R) h) : HC Try.prog fn_ms_Len (List.map AV.val [.c (.addr a0)]).toArray h R :=
  den_calls hmix Try.func75 (of_decide_eq_true rfl) (by rw [den_ms_Len]; exact hw)
def M_ms_Reverse (a0 : PA) (a1 : Value) : M :=
  .call fn_ms_reverse [.c (.addr a0), .c (.raw (a1)), .c (.ff)] true [] fun r0 =>
  .done .ret []
theorem den_ms_Reverse (a0 : PA) (a1 : Value) : denFn Try.prog Try.f73 [.c (.addr a0), .c (.raw a1)] = M_ms_Reverse a0 a1 := by kernel_rfl
theorem hc_ms_Reverse (a0 : PA) (a1 : Value) {h : H} {R : Value → H → Prop} (hw : wp Try.prog (M_ms_Reverse a0 a1) (Ret R) h) : HC Try.prog fn_ms_Reverse (List.map AV.val [.c (.addr a0), .c (.raw a1)]).toArray h R :=
  den_calls hmix Try.func73 (of_decide_eq_true rfl) (by rw [den_ms_Reverse]; exact hw)
def M_ms_Scan (a0 : PA) (a1 : Value) : M :=
  .call fn_ms_scan [.c (.addr a0), .c (.raw (a1)), .c (.ff)] true [] fun r0 =>
  .done .ret []
theorem den_ms_Scan (a0 : PA) (a1 : Value) : denFn Try.prog Try.f70 [.c (.addr a0), .c (.raw a1)] = M_ms_Scan a0 a1 := by kernel_rfl
theorem hc_ms_Scan (a0 : PA) (a1 : Value) {h : H} {R : Value → H → Prop} (hw : wp Try.prog (M_ms_Scan a0 a1) (Ret R) h) : HC Try.prog fn_ms_Scan (List.map AV.val [.c (.addr a0), .c (.raw a1)]).toArray h R :=
  den_calls hmix Try.func70 (of_decide_eq_true rfl) (by rw [den_ms_Scan]; exact hw)
def M_ms_nodeReverse (a0 : PA) (a1 : PA) (a2 : Value) (a3 : Bool) : M :=
  .call fn_ms_isoLoad [.c (.addr a0), .c (.addr a1), .c (.bool (a3))] false [.c (.ptr)] fun r0 =>
  .call fn_ns_leaf [.c (.ptr (r0.fst))] false [.c (.bool)] fun r1 =>
  .ite (r1.fst)
  (.nonnil (r0.fst) fun p2 =>
    .load (p2.fst, p2.snd + 2) (.sl) fun s3 =>
    .guard (InK IntKind.i64 ((↑s3.snd.fst : Int) - 1)) <|
    .bind (some 0) (.loop [.c (.int .i64)] [.c (.int .i64 ((↑s3.snd.fst : Int) - 1))] fun y4 =>
        .ite (decide (y4.fst ≥ 0))
        (.nonnil (r0.fst) fun p5 =>
          .load (p5.fst, p5.snd + 2) (.sl) fun s6 =>
          .nonnil (s6.fst) fun p7 =>
          .guard (((0 : Int) ≤ y4.fst) ∧ ((y4.fst : Int) < (↑s6.snd.fst : Int))) <|
          .load (p7.fst, p7.snd + Int.toNat y4.fst) (.int .i64) fun i8 =>
          .nonnil (r0.fst) fun p9 =>
          .load (p9.fst, p9.snd + 2) (.sl) fun s10 =>
          .nonnil (s10.fst) fun p11 =>
          .guard (((0 : Int) ≤ y4.fst) ∧ ((y4.fst : Int) < (↑s10.snd.fst : Int))) <|
          .there (p11.fst, p11.snd + Int.toNat y4.fst) <|
          .callv (a2) [.c (.int .i64 (i8)), .agg []] false [.c (.bool)] fun r12 =>
          .ite (!r12.fst)
          (.done .ret [.c (.ff)])
          (.guard (InK IntKind.i64 (y4.fst - 1)) <|
            .done .normal [.c (.int .i64 (y4.fst - 1))]))
        (.done (.exit 0) [])) [] fun x13 =>
    .done .ret [.c (.tt)])
  (.nonnil (r0.fst) fun p14 =>
    .load (p14.fst, p14.snd + 3) (.ptr) fun q15 =>
    .nonnil (q15) fun p16 =>
    .load p16 (.sl) fun s17 =>
    .nonnil (r0.fst) fun p18 =>
    .load (p18.fst, p18.snd + 3) (.ptr) fun q19 =>
    .nonnil (q19) fun p20 =>
    .load p20 (.sl) fun s21 =>
    .guard (InK IntKind.i64 ((↑s21.snd.fst : Int) - 1)) <|
    .nonnil (s17.fst) fun p22 =>
    .guard (((0 : Int) ≤ (↑s21.snd.fst : Int) - 1) ∧ (((↑s21.snd.fst : Int) - 1 : Int) < (↑s17.snd.fst : Int))) <|
    .call fn_ms_nodeReverse [.c (.addr a0), .c (.addr (p22.fst, p22.snd + ((↑s21.snd.fst : Int) - 1).toNat)), .c (.raw (a2)), .c (.bool (a3))] false [.c (.bool)] fun r23 =>
    .ite (!r23.fst)
    (.done .ret [.c (.ff)])
    (.nonnil (r0.fst) fun p24 =>
      .load (p24.fst, p24.snd + 2) (.sl) fun s25 =>
      .guard (InK IntKind.i64 ((↑s25.snd.fst : Int) - 1)) <|
      .bind (some 2) (.loop [.c (.int .i64)] [.c (.int .i64 ((↑s25.snd.fst : Int) - 1))] fun y26 =>
          .ite (decide (y26.fst ≥ 0))
          (.nonnil (r0.fst) fun p27 =>
            .load (p27.fst, p27.snd + 2) (.sl) fun s28 =>
            .nonnil (s28.fst) fun p29 =>
            .guard (((0 : Int) ≤ y26.fst) ∧ ((y26.fst : Int) < (↑s28.snd.fst : Int))) <|
            .load (p29.fst, p29.snd + Int.toNat y26.fst) (.int .i64) fun i30 =>
            .nonnil (r0.fst) fun p31 =>
            .load (p31.fst, p31.snd + 2) (.sl) fun s32 =>
            .nonnil (s32.fst) fun p33 =>
            .guard (((0 : Int) ≤ y26.fst) ∧ ((y26.fst : Int) < (↑s32.snd.fst : Int))) <|
            .there (p33.fst, p33.snd + Int.toNat y26.fst) <|
            .callv (a2) [.c (.int .i64 (i30)), .agg []] false [.c (.bool)] fun r34 =>
            .ite (!r34.fst)
            (.done .ret [.c (.ff)])
            (.nonnil (r0.fst) fun p35 =>
              .load (p35.fst, p35.snd + 3) (.ptr) fun q36 =>
              .nonnil (q36) fun p37 =>
              .load p37 (.sl) fun s38 =>
              .nonnil (s38.fst) fun p39 =>
              .guard (((0 : Int) ≤ y26.fst) ∧ ((y26.fst : Int) < (↑s38.snd.fst : Int))) <|
              .call fn_ms_nodeReverse [.c (.addr a0), .c (.addr (p39.fst, p39.snd + Int.toNat y26.fst)), .c (.raw (a2)), .c (.bool (a3))] false [.c (.bool)] fun r40 =>
              .ite (!r40.fst)
              (.done .ret [.c (.ff)])
              (.guard (InK IntKind.i64 (y26.fst - 1)) <|
                .done .normal [.c (.int .i64 (y26.fst - 1))])))
          (.done (.exit 2) [])) [] fun x41 =>
      .done .ret [.c (.tt)]))
theorem den_ms_nodeReverse (a0 : PA) (a1 : PA) (a2 : Value) (a3 : Bool) : denFn Try.prog Try.f104 [.c (.addr a0), .c (.addr a1), .c (.raw a2), .c (.bool a3)] = M_ms_nodeReverse a0 a1 a2 a3 := by kernel_rfl
theorem hc_ms_nodeReverse (a0 : PA) (a1 : PA) (a2 : Value) (a3 : Bool) {h : H} {R : Value → H → Prop} (hw : wp Try.prog (M_ms_nodeReverse a0 a1 a2 a3) (Ret R) h) : HC Try.prog fn_ms_nodeReverse (List.map AV.val [.c (.addr a0), .c (.addr a1), .c (.raw a2), .c (.bool a3)]).toArray h R :=
  den_calls hmix Try.func104 (of_decide_eq_true rfl) (by rw [den_ms_nodeReverse]; exact hw)
def M_ms_nodeScan (a0 : PA) (a1 : PA) (a2 : Value) (a3 : Bool) : M :=
  .call fn_ms_isoLoad [.c (.addr a0), .c (.addr a1), .c (.bool (a3))] false [.c (.ptr)] fun r0 =>
  .call fn_ns_leaf [.c (.ptr (r0.fst))] false [.c (.bool)] fun r1 =>
  .ite (r1.fst)
  (.bind (some 0) (.loop [.c (.int .i64)] [.c (.int .i64 (0))] fun y2 =>
        .nonnil (r0.fst) fun p3 =>
        .load (p3.fst, p3.snd + 2) (.sl) fun s4 =>
        .ite (decide (y2.fst < (↑s4.snd.fst : Int)))
        (.nonnil (r0.fst) fun p5 =>
          .load (p5.fst, p5.snd + 2) (.sl) fun s6 =>
          .nonnil (s6.fst) fun p7 =>
          .guard (((0 : Int) ≤ y2.fst) ∧ ((y2.fst : Int) < (↑s6.snd.fst : Int))) <|
          .load (p7.fst, p7.snd + Int.toNat y2.fst) (.int .i64) fun i8 =>
          .nonnil (r0.fst) fun p9 =>
          .load (p9.fst, p9.snd + 2) (.sl) fun s10 =>
          .nonnil (s10.fst) fun p11 =>
          .guard (((0 : Int) ≤ y2.fst) ∧ ((y2.fst : Int) < (↑s10.snd.fst : Int))) <|
          .there (p11.fst, p11.snd + Int.toNat y2.fst) <|
          .callv (a2) [.c (.int .i64 (i8)), .agg []] false [.c (.bool)] fun r12 =>
          .ite (!r12.fst)
          (.done .ret [.c (.ff)])
          (.guard (InK IntKind.i64 (y2.fst + 1)) <|
            .done .normal [.c (.int .i64 (y2.fst + 1))]))
        (.done (.exit 0) [])) [] fun x13 =>
    .done .ret [.c (.tt)])
  (.bind (some 2) (.loop [.c (.int .i64)] [.c (.int .i64 (0))] fun y14 =>
        .nonnil (r0.fst) fun p15 =>
        .load (p15.fst, p15.snd + 2) (.sl) fun s16 =>
        .ite (decide (y14.fst < (↑s16.snd.fst : Int)))
        (.nonnil (r0.fst) fun p17 =>
          .load (p17.fst, p17.snd + 3) (.ptr) fun q18 =>
          .nonnil (q18) fun p19 =>
          .load p19 (.sl) fun s20 =>
          .nonnil (s20.fst) fun p21 =>
          .guard (((0 : Int) ≤ y14.fst) ∧ ((y14.fst : Int) < (↑s20.snd.fst : Int))) <|
          .call fn_ms_nodeScan [.c (.addr a0), .c (.addr (p21.fst, p21.snd + Int.toNat y14.fst)), .c (.raw (a2)), .c (.bool (a3))] false [.c (.bool)] fun r22 =>
          .ite (!r22.fst)
          (.done .ret [.c (.ff)])
          (.nonnil (r0.fst) fun p23 =>
            .load (p23.fst, p23.snd + 2) (.sl) fun s24 =>
            .nonnil (s24.fst) fun p25 =>
            .guard (((0 : Int) ≤ y14.fst) ∧ ((y14.fst : Int) < (↑s24.snd.fst : Int))) <|
            .load (p25.fst, p25.snd + Int.toNat y14.fst) (.int .i64) fun i26 =>
            .nonnil (r0.fst) fun p27 =>
            .load (p27.fst, p27.snd + 2) (.sl) fun s28 =>
            .nonnil (s28.fst) fun p29 =>
            .guard (((0 : Int) ≤ y14.fst) ∧ ((y14.fst : Int) < (↑s28.snd.fst : Int))) <|
            .there (p29.fst, p29.snd + Int.toNat y14.fst) <|
            .callv (a2) [.c (.int .i64 (i26)), .agg []] false [.c (.bool)] fun r30 =>
            .ite (!r30.fst)
            (.done .ret [.c (.ff)])
            (.guard (InK IntKind.i64 (y14.fst + 1)) <|
              .done .normal [.c (.int .i64 (y14.fst + 1))])))
        (.done (.exit 2) [])) [] fun x31 =>
    .nonnil (r0.fst) fun p32 =>
    .load (p32.fst, p32.snd + 3) (.ptr) fun q33 =>
    .nonnil (q33) fun p34 =>
    .load p34 (.sl) fun s35 =>
    .nonnil (r0.fst) fun p36 =>
    .load (p36.fst, p36.snd + 3) (.ptr) fun q37 =>
    .nonnil (q37) fun p38 =>
    .load p38 (.sl) fun s39 =>
    .guard (InK IntKind.i64 ((↑s39.snd.fst : Int) - 1)) <|
    .nonnil (s35.fst) fun p40 =>
    .guard (((0 : Int) ≤ (↑s39.snd.fst : Int) - 1) ∧ (((↑s39.snd.fst : Int) - 1 : Int) < (↑s35.snd.fst : Int))) <|
    .call fn_ms_nodeScan [.c (.addr a0), .c (.addr (p40.fst, p40.snd + ((↑s39.snd.fst : Int) - 1).toNat)), .c (.raw (a2)), .c (.bool (a3))] false [.c (.bool)] fun r41 =>
    .done .ret [.c (.bool (r41.fst))])
theorem den_ms_nodeScan (a0 : PA) (a1 : PA) (a2 : Value) (a3 : Bool) : denFn Try.prog Try.f103 [.c (.addr a0), .c (.addr a1), .c (.raw a2), .c (.bool a3)] = M_ms_nodeScan a0 a1 a2 a3 := by kernel_rfl
theorem hc_ms_nodeScan (a0 : PA) (a1 : PA) (a2 : Value) (a3 : Bool) {h : H} {R : Value → H → Prop} (hw : wp Try.prog (M_ms_nodeScan a0 a1 a2 a3) (Ret R) h) : HC Try.prog fn_ms_nodeScan (List.map AV.val [.c (.addr a0), .c (.addr a1), .c (.raw a2), .c (.bool a3)]).toArray h R :=
  den_calls hmix Try.func103 (of_decide_eq_true rfl) (by rw [den_ms_nodeScan]; exact hw)
def M_ms_reverse (a0 : PA) (a1 : Value) (a2 : Bool) : M :=
  .load (a0.fst, a0.snd + 2) (.ptr) fun q0 =>
  .ite (Option.isNone q0)
  (.done .ret [])
  (.call fn_ms_nodeReverse [.c (.addr a0), .c (.addr (a0.fst, a0.snd + 2)), .c (.raw (a1)), .c (.bool (a2))] false [.c (.bool)] fun r1 =>
    .done .ret [])
theorem den_ms_reverse (a0 : PA) (a1 : Value) (a2 : Bool) : denFn Try.prog Try.f92 [.c (.addr a0), .c (.raw a1), .c (.bool a2)] = M_ms_reverse a0 a1 a2 := by kernel_rfl
theorem hc_ms_reverse (a0 : PA) (a1 : Value) (a2 : Bool) {h : H} {R : Value → H → Prop} (hw : wp Try.prog (M_ms_reverse a0 a1 a2) (Ret R) h) : HC Try.prog fn_ms_reverse (List.map AV.val [.c (.addr a0), .c (.raw a1), .c (.bool a2)]).toArray h R :=
  den_calls hmix Try.func92 (of_decide_eq_true rfl) (by rw [den_ms_reverse]; exact hw)
def M_ms_scan (a0 : PA) (a1 : Value) (a2 : Bool) : M :=
  .load (a0.fst, a0.snd + 2) (.ptr) fun q0 =>
  .ite (Option.isNone q0)
  (.done .ret [])
  (.call fn_ms_nodeScan [.c (.addr a0), .c (.addr (a0.fst, a0.snd + 2)), .c (.raw (a1)), .c (.bool (a2))] false [.c (.bool)] fun r1 =>
    .done .ret [])
theorem den_ms_scan (a0 : PA) (a1 : Value) (a2 : Bool) : denFn Try.prog Try.f91 [.c (.addr a0), .c (.raw a1), .c (.bool a2)] = M_ms_scan a0 a1 a2 := by kernel_rfl
theorem hc_ms_scan (a0 : PA) (a1 : Value) (a2 : Bool) {h : H} {R : Value → H → Prop} (hw : wp Try.prog (M_ms_scan a0 a1 a2) (Ret R) h) : HC Try.prog fn_ms_scan (List.map AV.val [.c (.addr a0), .c (.raw a1), .c (.bool a2)]).toArray h R :=
  den_calls hmix Try.func91 (of_decide_eq_true rfl) (by rw [den_ms_scan]; exact hw)
def M_ns_keys (a0 : PA) (a1p : Option PA) (a1l : Nat) (a1c : Nat) : M :=
  .call fn_ns_leaf [.c (.addr a0)] false [.c (.bool)] fun r0 =>
  .ite (r0.fst)
  (.bind (some 0) (.loop [.c (.int .i64), .c (.sl)] [.c (.int .i64 (0)), .c (.sl (a1p) (a1l) (a1c))] fun y1 =>
        .load (a0.fst, a0.snd + 2) (.sl) fun s2 =>
        .ite (decide (y1.fst < (↑s2.snd.fst : Int)))
        (.load (a0.fst, a0.snd + 2) (.sl) fun s3 =>
          .nonnil (s3.fst) fun p4 =>
          .guard (((0 : Int) ≤ y1.fst) ∧ ((y1.fst : Int) < (↑s3.snd.fst : Int))) <|
          .load (p4.fst, p4.snd + Int.toNat y1.fst) (.int .i64) fun i5 =>
          .alloc ty_int [.int .i64 (i5)] fun n6 =>
          .append ty_int 1 8 [.int .i64 (0)] ((y1.snd.fst.fst), y1.snd.fst.snd.fst, y1.snd.fst.snd.snd) ((some (n6, 0)), 1, 1) fun s7 =>
          .guard (InK IntKind.i64 (y1.fst + 1)) <|
          .done .normal [.c (.int .i64 (y1.fst + 1)), .c (.sl (s7.fst) (s7.snd.fst) (s7.snd.snd))])
        (.done (.exit 0) [.c (.sl (y1.snd.fst.fst) (y1.snd.fst.snd.fst) (y1.snd.fst.snd.snd))])) [.c (.sl)] fun x8 =>
    .done .ret [.c (.sl (x8.fst.fst) (x8.fst.snd.fst) (x8.fst.snd.snd))])
  (.bind (some 2) (.loop [.c (.int .i64), .c (.sl)] [.c (.int .i64 (0)), .c (.sl (a1p) (a1l) (a1c))] fun y9 =>
        .load (a0.fst, a0.snd + 2) (.sl) fun s10 =>
        .ite (decide (y9.fst < (↑s10.snd.fst : Int)))
        (.load (a0.fst, a0.snd + 3) (.ptr) fun q11 =>
          .nonnil (q11) fun p12 =>
          .load p12 (.sl) fun s13 =>
          .nonnil (s13.fst) fun p14 =>
          .guard (((0 : Int) ≤ y9.fst) ∧ ((y9.fst : Int) < (↑s13.snd.fst : Int))) <|
          .load (p14.fst, p14.snd + Int.toNat y9.fst) (.ptr) fun q15 =>
          .call fn_ns_keys [.c (.ptr (q15)), .c (.sl (y9.snd.fst.fst) (y9.snd.fst.snd.fst) (y9.snd.fst.snd.snd))] false [.c (.sl)] fun r16 =>
          .load (a0.fst, a0.snd + 2) (.sl) fun s17 =>
          .nonnil (s17.fst) fun p18 =>
          .guard (((0 : Int) ≤ y9.fst) ∧ ((y9.fst : Int) < (↑s17.snd.fst : Int))) <|
          .load (p18.fst, p18.snd + Int.toNat y9.fst) (.int .i64) fun i19 =>
          .alloc ty_int [.int .i64 (i19)] fun n20 =>
          .append ty_int 1 8 [.int .i64 (0)] ((r16.fst.fst), r16.fst.snd.fst, r16.fst.snd.snd) ((some (n20, 0)), 1, 1) fun s21 =>
          .guard (InK IntKind.i64 (y9.fst + 1)) <|
          .done .normal [.c (.int .i64 (y9.fst + 1)), .c (.sl (s21.fst) (s21.snd.fst) (s21.snd.snd))])
        (.done (.exit 2) [.c (.sl (y9.snd.fst.fst) (y9.snd.fst.snd.fst) (y9.snd.fst.snd.snd))])) [.c (.sl)] fun x22 =>
    .load (a0.fst, a0.snd + 3) (.ptr) fun q23 =>
    .nonnil (q23) fun p24 =>
    .load p24 (.sl) fun s25 =>
    .load (a0.fst, a0.snd + 3) (.ptr) fun q26 =>
    .nonnil (q26) fun p27 =>
    .load p27 (.sl) fun s28 =>
    .guard (InK IntKind.i64 ((↑s28.snd.fst : Int) - 1)) <|
    .nonnil (s25.fst) fun p29 =>
    .guard (((0 : Int) ≤ (↑s28.snd.fst : Int) - 1) ∧ (((↑s28.snd.fst : Int) - 1 : Int) < (↑s25.snd.fst : Int))) <|
    .load (p29.fst, p29.snd + ((↑s28.snd.fst : Int) - 1).toNat) (.ptr) fun q30 =>
    .call fn_ns_keys [.c (.ptr (q30)), .c (.sl (x22.fst.fst) (x22.fst.snd.fst) (x22.fst.snd.snd))] false [.c (.sl)] fun r31 =>
    .done .ret [.c (.sl (r31.fst.fst) (r31.fst.snd.fst) (r31.fst.snd.snd))])
theorem den_ns_keys (a0 : PA) (a1p : Option PA) (a1l : Nat) (a1c : Nat) : denFn Try.prog Try.f90 [.c (.addr a0), .c (.sl a1p a1l a1c)] = M_ns_keys a0 a1p a1l a1c := by kernel_rfl
theorem hc_ns_keys (a0 : PA) (a1p : Option PA) (a1l : Nat) (a1c : Nat) {h : H} {R : Value → H → Prop} (hw : wp Try.prog (M_ns_keys a0 a1p a1l a1c) (Ret R) h) : HC Try.prog fn_ns_keys (List.map AV.val [.c (.addr a0), .c (.sl a1p a1l a1c)]).toArray h R :=
  den_calls hmix Try.func90 (of_decide_eq_true rfl) (by rw [den_ns_keys]; exact hw)
end Go.Proofs.Ytpbmahnieepmiaa
