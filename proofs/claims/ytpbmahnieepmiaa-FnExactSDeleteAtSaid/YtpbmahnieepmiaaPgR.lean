/-
  Functions of the translation as typed programs, and that each is its function's reading. Written by a program of ours (gen2.py). Conditions: none.
-/
import Derived.Test.YtpbmahnieepmiaaNm
namespace Go.Proofs.Ytpbmahnieepmiaa
open Go
set_option maxRecDepth 100000
set_option linter.unusedVariables false
def M_ms_Descend (a0 : PA) (a1 : Int) (a2 : Value) : M :=
  .call fn_ms_descend [.c (.addr a0), .c (.int .i64 (a1)), .c (.raw (a2)), .c (.ff)] true [] fun r0 =>
  .done .ret []
theorem den_ms_Descend (a0 : PA) (a1 : Int) (a2 : Value) : denFn Try.prog Try.f80 [.c (.addr a0), .c (.int .i64 a1), .c (.raw a2)] = M_ms_Descend a0 a1 a2 := by kernel_rfl
theorem hc_ms_Descend (a0 : PA) (a1 : Int) (a2 : Value) {h : H} {R : Value → H → Prop} (hw : wp Try.prog (M_ms_Descend a0 a1 a2) (Ret R) h) : HC Try.prog fn_ms_Descend (List.map AV.val [.c (.addr a0), .c (.int .i64 a1), .c (.raw a2)]).toArray h R :=
  den_calls hmix Try.func80 (of_decide_eq_true rfl) (by rw [den_ms_Descend]; exact hw)
def M_ms_Height (a0 : PA) : M :=
  .load (a0.fst, a0.snd + 2) (.ptr) fun q0 =>
  .bind none (.ite (!Option.isNone q0)
    (.load (a0.fst, a0.snd + 2) (.ptr) fun q1 =>
      .bind (some 0) (.loop [.c (.ptr), .c (.int .i64)] [.c (.ptr (q1)), .c (.int .i64 (0))] fun y2 =>
          .guard (InK IntKind.i64 (y2.snd.fst + 1)) <|
          .call fn_ns_leaf [.c (.ptr (y2.fst))] false [.c (.bool)] fun r3 =>
          .ite (r3.fst)
          (.done (.exit 0) [.c (.int .i64 (y2.snd.fst + 1))])
          (.nonnil (y2.fst) fun p4 =>
            .load (p4.fst, p4.snd + 3) (.ptr) fun q5 =>
            .nonnil (q5) fun p6 =>
            .load p6 (.sl) fun s7 =>
            .nonnil (s7.fst) fun p8 =>
            .guard (((0 : Int) ≤ 0) ∧ ((0 : Int) < (↑s7.snd.fst : Int))) <|
            .load (p8.fst, p8.snd) (.ptr) fun q9 =>
            .done .normal [.c (.ptr (q9)), .c (.int .i64 (y2.snd.fst + 1))])) [.c (.int .i64)] fun x10 =>
      .done .normal [.c (.int .i64 (x10.fst))])
    (.done .normal [.c (.int .i64 (0))])) [.c (.int .i64)] fun x11 =>
  .done .ret [.c (.int .i64 (x11.fst))]
theorem den_ms_Height (a0 : PA) : denFn Try.prog Try.f48 [.c (.addr a0)] = M_ms_Height a0 := by kernel_rfl
theorem hc_ms_Height (a0 : PA) {h : H} {R : Value → H → Prop} (hw : wp Try.prog (M_ms_Height a0) (Ret R) h) : HC Try.prog fn_ms_Height (List.map AV.val [.c (.addr a0)]).toArray h R :=
  den_calls hmix Try.func48 (of_decide_eq_true rfl) (by rw [den_ms_Height]; exact hw)
def M_ms_Keys (a0 : PA) : M :=
  .call fn_ms_Len [.c (.addr a0)] false [.c (.int .i64)] fun r0 =>
  .make ty_int 1 8 [.int .i64 (0)] (0) (r0.fst) fun s1 =>
  .load (a0.fst, a0.snd + 2) (.ptr) fun q2 =>
  .bind none (.ite (!Option.isNone q2)
    (.load (a0.fst, a0.snd + 2) (.ptr) fun q3 =>
      .call fn_ns_keys [.c (.ptr (q3)), .c (.sl (s1.fst) (s1.snd.fst) (s1.snd.snd))] false [.c (.sl)] fun r4 =>
      .done .normal [.c (.sl (r4.fst.fst) (r4.fst.snd.fst) (r4.fst.snd.snd))])
    (.done .normal [.c (.sl (s1.fst) (s1.snd.fst) (s1.snd.snd))])) [.c (.sl)] fun x5 =>
  .done .ret [.c (.sl (x5.fst.fst) (x5.fst.snd.fst) (x5.fst.snd.snd))]
theorem den_ms_Keys (a0 : PA) : denFn Try.prog Try.f69 [.c (.addr a0)] = M_ms_Keys a0 := by kernel_rfl
theorem hc_ms_Keys (a0 : PA) {h : H} {R : Value → H → Prop} (hw : wp Try.prog (M_ms_Keys a0) (Ret R) h) : HC Try.prog fn_ms_Keys (List.map AV.val [.c (.addr a0)]).toArray h R :=
  den_calls hmix Try.func69 (of_decide_eq_true rfl) (by rw [den_ms_Keys]; exact hw)
def M_ms_Len (a0 : PA) : M :=
  .load (a0.fst, a0.snd + 3) (.int .i64) fun i0 =>
  .done .ret [.c (.int .i64 (i0))]
theorem den_ms_Len (a0 : PA) : denFn Try.prog Try.f75 [.c (.addr a0)] = M_ms_Len a0 := by kernel_rfl
theorem hc_ms_Len (a0 : PA) {h : H} {R : Value → H → Prop} (hw : wp Try.prog (M_ms_Len a0) (Ret R) h) : HC Try.prog fn_ms_Len (List.map AV.val [.c (.addr a0)]).toArray h R :=
  den_calls hmix Try.func75 (of_decide_eq_true rfl) (by rw [den_ms_Len]; exact hw)
def M_ms_Load (a0 : PA) (a1 : Int) : M :=
  .alloc ty_struct [] fun n0 =>
  .alloc ty_struct [] fun n1 =>
  .alloc ty_btree_mapPair_int_struct [.int .i64 (0)] fun n2 =>
  .store (n2, 0) (.int .i64 (a1)) <|
  .load (a0.fst, a0.snd + 2) (.ptr) fun q3 =>
  .ite (Option.isNone q3)
  (.load (n2, 0) (.int .i64) fun i4 =>
    .there (n2, 0) <|
    .call fn_ms_Set [.c (.addr a0), .c (.int .i64 (i4)), .agg []] true [.agg [], .c (.bool)] fun r5 =>
    .done .ret [.agg [], .c (.bool (r5.snd.fst))])
  (.call fn_ms_isoLoad [.c (.addr a0), .c (.addr (a0.fst, a0.snd + 2)), .c (.tt)] false [.c (.ptr)] fun r6 =>
    .bind (some 0) (.loop [.c (.ptr)] [.c (.ptr (r6.fst))] fun y7 =>
        .nonnil (y7.fst) fun p8 =>
        .load (p8.fst, p8.snd + 1) (.int .i64) fun i9 =>
        .guard (InK IntKind.i64 (i9 + 1)) <|
        .nonnil (y7.fst) fun p10 =>
        .store (p10.fst, p10.snd + 1) (.int .i64 (i9 + 1)) <|
        .call fn_ns_leaf [.c (.ptr (y7.fst))] false [.c (.bool)] fun r11 =>
        .ite (r11.fst)
        (.nonnil (y7.fst) fun p12 =>
          .load (p12.fst, p12.snd + 2) (.sl) fun s13 =>
          .load (a0.fst, a0.snd + 6) (.int .i64) fun i14 =>
          .bind none (.ite (decide ((↑s13.snd.fst : Int) < i14))
            (.nonnil (y7.fst) fun p15 =>
              .load (p15.fst, p15.snd + 2) (.sl) fun s16 =>
              .nonnil (y7.fst) fun p17 =>
              .load (p17.fst, p17.snd + 2) (.sl) fun s18 =>
              .guard (InK IntKind.i64 ((↑s18.snd.fst : Int) - 1)) <|
              .nonnil (s16.fst) fun p19 =>
              .guard (((0 : Int) ≤ (↑s18.snd.fst : Int) - 1) ∧ (((↑s18.snd.fst : Int) - 1 : Int) < (↑s16.snd.fst : Int))) <|
              .load (p19.fst, p19.snd + ((↑s18.snd.fst : Int) - 1).toNat) (.int .i64) fun i20 =>
              .load (n2, 0) (.int .i64) fun i21 =>
              .ite (decide (i20 < i21))
              (.nonnil (y7.fst) fun p22 =>
                .load (p22.fst, p22.snd + 2) (.sl) fun s23 =>
                .load (n2, 0) (.int .i64) fun i24 =>
                .alloc ty_btree_mapPair_int_struct [.int .i64 (i24)] fun n25 =>
                .held (p22.fst, p22.snd + 2) (.sl (s23.fst) (s23.snd.fst) (s23.snd.snd)) <|
                .append ty_btree_mapPair_int_struct 1 8 [.int .i64 (0)] ((s23.fst), s23.snd.fst, s23.snd.snd) ((some (n25, 0)), 1, 1) fun s26 =>
                .nonnil (y7.fst) fun p27 =>
                .store (p27.fst, p27.snd + 2) (.sl (s26.fst) (s26.snd.fst) (s26.snd.snd)) <|
                .load (a0.fst, a0.snd + 3) (.int .i64) fun i28 =>
                .guard (InK IntKind.i64 (i28 + 1)) <|
                .store (a0.fst, a0.snd + 3) (.int .i64 (i28 + 1)) <|
                .there (a0.fst, a0.snd + 4) <|
                .done .ret [.agg [], .c (.ff)])
              (.done .normal []))
            (.done .normal [])) [] fun x29 =>
          .done (.exit 0) [])
        (.nonnil (y7.fst) fun p30 =>
          .load (p30.fst, p30.snd + 3) (.ptr) fun q31 =>
          .nonnil (q31) fun p32 =>
          .load p32 (.sl) fun s33 =>
          .nonnil (y7.fst) fun p34 =>
          .load (p34.fst, p34.snd + 3) (.ptr) fun q35 =>
          .nonnil (q35) fun p36 =>
          .load p36 (.sl) fun s37 =>
          .guard (InK IntKind.i64 ((↑s37.snd.fst : Int) - 1)) <|
          .nonnil (s33.fst) fun p38 =>
          .guard (((0 : Int) ≤ (↑s37.snd.fst : Int) - 1) ∧ (((↑s37.snd.fst : Int) - 1 : Int) < (↑s33.snd.fst : Int))) <|
          .call fn_ms_isoLoad [.c (.addr a0), .c (.addr (p38.fst, p38.snd + ((↑s37.snd.fst : Int) - 1).toNat)), .c (.tt)] false [.c (.ptr)] fun r39 =>
          .done .normal [.c (.ptr (r39.fst))])) [] fun x40 =>
    .load (a0.fst, a0.snd + 2) (.ptr) fun q41 =>
    .bind (some 2) (.loop [.c (.ptr)] [.c (.ptr (q41))] fun y42 =>
        .nonnil (y42.fst) fun p43 =>
        .load (p43.fst, p43.snd + 1) (.int .i64) fun i44 =>
        .guard (InK IntKind.i64 (i44 - 1)) <|
        .nonnil (y42.fst) fun p45 =>
        .store (p45.fst, p45.snd + 1) (.int .i64 (i44 - 1)) <|
        .call fn_ns_leaf [.c (.ptr (y42.fst))] false [.c (.bool)] fun r46 =>
        .ite (r46.fst)
        (.done (.exit 2) [])
        (.nonnil (y42.fst) fun p47 =>
          .load (p47.fst, p47.snd + 3) (.ptr) fun q48 =>
          .nonnil (q48) fun p49 =>
          .load p49 (.sl) fun s50 =>
          .nonnil (y42.fst) fun p51 =>
          .load (p51.fst, p51.snd + 3) (.ptr) fun q52 =>
          .nonnil (q52) fun p53 =>
          .load p53 (.sl) fun s54 =>
          .guard (InK IntKind.i64 ((↑s54.snd.fst : Int) - 1)) <|
          .nonnil (s50.fst) fun p55 =>
          .guard (((0 : Int) ≤ (↑s54.snd.fst : Int) - 1) ∧ (((↑s54.snd.fst : Int) - 1 : Int) < (↑s50.snd.fst : Int))) <|
          .load (p55.fst, p55.snd + ((↑s54.snd.fst : Int) - 1).toNat) (.ptr) fun q56 =>
          .done .normal [.c (.ptr (q56))])) [] fun x57 =>
    .load (n2, 0) (.int .i64) fun i58 =>
    .there (n2, 0) <|
    .call fn_ms_Set [.c (.addr a0), .c (.int .i64 (i58)), .agg []] true [.agg [], .c (.bool)] fun r59 =>
    .done .ret [.agg [], .c (.bool (r59.snd.fst))])
theorem den_ms_Load (a0 : PA) (a1 : Int) : denFn Try.prog Try.f79 [.c (.addr a0), .c (.int .i64 a1), .agg []] = M_ms_Load a0 a1 := by kernel_rfl
theorem hc_ms_Load (a0 : PA) (a1 : Int) {h : H} {R : Value → H → Prop} (hw : wp Try.prog (M_ms_Load a0 a1) (Ret R) h) : HC Try.prog fn_ms_Load (List.map AV.val [.c (.addr a0), .c (.int .i64 a1), .agg []]).toArray h R :=
  den_calls hmix Try.func79 (of_decide_eq_true rfl) (by rw [den_ms_Load]; exact hw)
def M_ms_descend (a0 : PA) (a1 : Int) (a2 : Value) (a3 : Bool) : M :=
  .load (a0.fst, a0.snd + 2) (.ptr) fun q0 =>
  .ite (Option.isNone q0)
  (.done .ret [])
  (.call fn_ms_nodeDescend [.c (.addr a0), .c (.addr (a0.fst, a0.snd + 2)), .c (.int .i64 (a1)), .c (.raw (a2)), .c (.bool (a3))] false [.c (.bool)] fun r1 =>
    .done .ret [])
theorem den_ms_descend (a0 : PA) (a1 : Int) (a2 : Value) (a3 : Bool) : denFn Try.prog Try.f100 [.c (.addr a0), .c (.int .i64 a1), .c (.raw a2), .c (.bool a3)] = M_ms_descend a0 a1 a2 a3 := by kernel_rfl
theorem hc_ms_descend (a0 : PA) (a1 : Int) (a2 : Value) (a3 : Bool) {h : H} {R : Value → H → Prop} (hw : wp Try.prog (M_ms_descend a0 a1 a2 a3) (Ret R) h) : HC Try.prog fn_ms_descend (List.map AV.val [.c (.addr a0), .c (.int .i64 a1), .c (.raw a2), .c (.bool a3)]).toArray h R :=
  den_calls hmix Try.func100 (of_decide_eq_true rfl) (by rw [den_ms_descend]; exact hw)
def M_ms_nodeDescend (a0 : PA) (a1 : PA) (a2 : Int) (a3 : Value) (a4 : Bool) : M :=
  .call fn_ms_isoLoad [.c (.addr a0), .c (.addr a1), .c (.bool (a4))] false [.c (.ptr)] fun r0 =>
  .call fn_ms_search [.c (.addr a0), .c (.ptr (r0.fst)), .c (.int .i64 (a2))] true [.c (.int .i64), .c (.bool)] fun r1 =>
  .bind none (.ite (!r1.snd.fst)
    (.call fn_ns_leaf [.c (.ptr (r0.fst))] false [.c (.bool)] fun r2 =>
      .bind none (.ite (!r2.fst)
        (.nonnil (r0.fst) fun p3 =>
          .load (p3.fst, p3.snd + 3) (.ptr) fun q4 =>
          .nonnil (q4) fun p5 =>
          .load p5 (.sl) fun s6 =>
          .nonnil (s6.fst) fun p7 =>
          .guard (((0 : Int) ≤ r1.fst) ∧ ((r1.fst : Int) < (↑s6.snd.fst : Int))) <|
          .call fn_ms_nodeDescend [.c (.addr a0), .c (.addr (p7.fst, p7.snd + Int.toNat r1.fst)), .c (.int .i64 (a2)), .c (.raw (a3)), .c (.bool (a4))] false [.c (.bool)] fun r8 =>
          .ite (!r8.fst)
          (.done .ret [.c (.ff)])
          (.done .normal []))
        (.done .normal [])) [] fun x9 =>
      .guard (InK IntKind.i64 (r1.fst - 1)) <|
      .done .normal [.c (.int .i64 (r1.fst - 1))])
    (.done .normal [.c (.int .i64 (r1.fst))])) [.c (.int .i64)] fun x10 =>
  .bind (some 0) (.loop [.c (.int .i64)] [.c (.int .i64 (x10.fst))] fun y11 =>
      .ite (decide (y11.fst ≥ 0))
      (.nonnil (r0.fst) fun p12 =>
        .load (p12.fst, p12.snd + 2) (.sl) fun s13 =>
        .nonnil (s13.fst) fun p14 =>
        .guard (((0 : Int) ≤ y11.fst) ∧ ((y11.fst : Int) < (↑s13.snd.fst : Int))) <|
        .load (p14.fst, p14.snd + Int.toNat y11.fst) (.int .i64) fun i15 =>
        .nonnil (r0.fst) fun p16 =>
        .load (p16.fst, p16.snd + 2) (.sl) fun s17 =>
        .nonnil (s17.fst) fun p18 =>
        .guard (((0 : Int) ≤ y11.fst) ∧ ((y11.fst : Int) < (↑s17.snd.fst : Int))) <|
        .there (p18.fst, p18.snd + Int.toNat y11.fst) <|
        .callv (a3) [.c (.int .i64 (i15)), .agg []] false [.c (.bool)] fun r19 =>
        .ite (!r19.fst)
        (.done .ret [.c (.ff)])
        (.call fn_ns_leaf [.c (.ptr (r0.fst))] false [.c (.bool)] fun r20 =>
          .bind none (.ite (!r20.fst)
            (.nonnil (r0.fst) fun p21 =>
              .load (p21.fst, p21.snd + 3) (.ptr) fun q22 =>
              .nonnil (q22) fun p23 =>
              .load p23 (.sl) fun s24 =>
              .nonnil (s24.fst) fun p25 =>
              .guard (((0 : Int) ≤ y11.fst) ∧ ((y11.fst : Int) < (↑s24.snd.fst : Int))) <|
              .call fn_ms_nodeReverse [.c (.addr a0), .c (.addr (p25.fst, p25.snd + Int.toNat y11.fst)), .c (.raw (a3)), .c (.bool (a4))] false [.c (.bool)] fun r26 =>
              .ite (!r26.fst)
              (.done .ret [.c (.ff)])
              (.done .normal []))
            (.done .normal [])) [] fun x27 =>
          .guard (InK IntKind.i64 (y11.fst - 1)) <|
          .done .normal [.c (.int .i64 (y11.fst - 1))]))
      (.done (.exit 0) [])) [] fun x28 =>
  .done .ret [.c (.tt)]
theorem den_ms_nodeDescend (a0 : PA) (a1 : PA) (a2 : Int) (a3 : Value) (a4 : Bool) : denFn Try.prog Try.f108 [.c (.addr a0), .c (.addr a1), .c (.int .i64 a2), .c (.raw a3), .c (.bool a4)] = M_ms_nodeDescend a0 a1 a2 a3 a4 := by kernel_rfl
theorem hc_ms_nodeDescend (a0 : PA) (a1 : PA) (a2 : Int) (a3 : Value) (a4 : Bool) {h : H} {R : Value → H → Prop} (hw : wp Try.prog (M_ms_nodeDescend a0 a1 a2 a3 a4) (Ret R) h) : HC Try.prog fn_ms_nodeDescend (List.map AV.val [.c (.addr a0), .c (.addr a1), .c (.int .i64 a2), .c (.raw a3), .c (.bool a4)]).toArray h R :=
  den_calls hmix Try.func108 (of_decide_eq_true rfl) (by rw [den_ms_nodeDescend]; exact hw)
def M_ms_nodeReverse (a0 : PA) (a1 : PA) (a2 : Value) (a3 : Bool) : M :=
  .call fn_ms_isoLoad [.c (.addr a0), .c (.addr a1), .c (.bool (a3))] false [.c (.ptr)] fun r0 =>
  .call fn_ns_leaf [.c (.ptr (r0.fst))] false [.c (.bool)] fun r1 =>
  .ite (r1.fst)
  (.nonnil (r0.fst) fun p2 =>
    .load (p2.fst, p2.snd + 2) (.sl) fun s3 =>
    .guard (InK IntKind.i64 ((↑s3.snd.fst : Int) - 1)) <|
    .bind (some 0) (.loop [.c (.int .i64)] [.c (.int .i64 ((↑s3.snd.fst : Int) - 1))] fun y4 =>
        .ite (decide (y4.fst ≥ 0))
        (.nonnil (r0.fst) fun p5 =>
          .load (p5.fst, p5.snd + 2) (.sl) fun s6 =>
          .nonnil (s6.fst) fun p7 =>
          .guard (((0 : Int) ≤ y4.fst) ∧ ((y4.fst : Int) < (↑s6.snd.fst : Int))) <|
          .load (p7.fst, p7.snd + Int.toNat y4.fst) (.int .i64) fun i8 =>
          .nonnil (r0.fst) fun p9 =>
          .load (p9.fst, p9.snd + 2) (.sl) fun s10 =>
          .nonnil (s10.fst) fun p11 =>
          .guard (((0 : Int) ≤ y4.fst) ∧ ((y4.fst : Int) < (↑s10.snd.fst : Int))) <|
          .there (p11.fst, p11.snd + Int.toNat y4.fst) <|
          .callv (a2) [.c (.int .i64 (i8)), .agg []] false [.c (.bool)] fun r12 =>
          .ite (!r12.fst)
          (.done .ret [.c (.ff)])
          (.guard (InK IntKind.i64 (y4.fst - 1)) <|
            .done .normal [.c (.int .i64 (y4.fst - 1))]))
        (.done (.exit 0) [])) [] fun x13 =>
    .done .ret [.c (.tt)])
  (.nonnil (r0.fst) fun p14 =>
    .load (p14.fst, p14.snd + 3) (.ptr) fun q15 =>
    .nonnil (q15) fun p16 =>
    .load p16 (.sl) fun s17 =>
    .nonnil (r0.fst) fun p18 =>
    .load (p18.fst, p18.snd + 3) (.ptr) fun q19 =>
    .nonnil (q19) fun p20 =>
    .load p20 (.sl) fun s21 =>
    .guard (InK IntKind.i64 ((↑s21.snd.fst : Int) - 1)) <|
    .nonnil (s17.fst) fun p22 =>
    .guard (((0 : Int) ≤ (↑s21.snd.fst : Int) - 1) ∧ (((↑s21.snd.fst : Int) - 1 : Int) < (↑s17.snd.fst : Int))) <|
    .call fn_ms_nodeReverse [.c (.addr a0), .c (.addr (p22.fst, p22.snd + ((↑s21.snd.fst : Int) - 1).toNat)), .c (.raw (a2)), .c (.bool (a3))] false [.c (.bool)] fun r23 =>
    .ite (!r23.fst)
    (.done .ret [.c (.ff)])
    (.nonnil (r0.fst) fun p24 =>
      .load (p24.fst, p24.snd + 2) (.sl) fun s25 =>
      .guard (InK IntKind.i64 ((↑s25.snd.fst : Int) - 1)) <|
      .bind (some 2) (.loop [.c (.int .i64)] [.c (.int .i64 ((↑s25.snd.fst : Int) - 1))] fun y26 =>
          .ite (decide (y26.fst ≥ 0))
          (.nonnil (r0.fst) fun p27 =>
            .load (p27.fst, p27.snd + 2) (.sl) fun s28 =>
            .nonnil (s28.fst) fun p29 =>
            .guard (((0 : Int) ≤ y26.fst) ∧ ((y26.fst : Int) < (↑s28.snd.fst : Int))) <|
            .load (p29.fst, p29.snd + Int.toNat y26.fst) (.int .i64) fun i30 =>
            .nonnil (r0.fst) fun p31 =>
            .load (p31.fst, p31.snd + 2) (.sl) fun s32 =>
            .nonnil (s32.fst) fun p33 =>
            .guard (((0 : Int) ≤ y26.fst) ∧ ((y26.fst : Int) < (↑s32.snd.fst : Int))) <|
            .there (p33.fst, p33.snd + Int.toNat y26.fst) <|
            .callv (a2) [.c (.int .i64 (i30)), .agg []] false [.c (.bool)] fun r34 =>
            .ite (!r34.fst)
            (.done .ret [.c (.ff)])
            (.nonnil (r0.fst) fun p35 =>
              .load (p35.fst, p35.snd + 3) (.ptr) fun q36 =>
              .nonnil (q36) fun p37 =>
              .load p37 (.sl) fun s38 =>
              .nonnil (s38.fst) fun p39 =>
              .guard (((0 : Int) ≤ y26.fst) ∧ ((y26.fst : Int) < (↑s38.snd.fst : Int))) <|
              .call fn_ms_nodeReverse [.c (.addr a0), .c (.addr (p39.fst, p39.snd + Int.toNat y26.fst)), .c (.raw (a2)), .c (.bool (a3))] false [.c (.bool)] fun r40 =>
              .ite (!r40.fst)
              (.done .ret [.c (.ff)])
              (.guard (InK IntKind.i64 (y26.fst - 1)) <|
                .done .normal [.c (.int .i64 (y26.fst - 1))])))
          (.done (.exit 2) [])) [] fun x41 =>
      .done .ret [.c (.tt)]))
theorem den_ms_nodeReverse (a0 : PA) (a1 : PA) (a2 : Value) (a3 : Bool) : denFn Try.prog Try.f104 [.c (.addr a0), .c (.addr a1), .c (.raw a2), .c (.bool a3)] = M_ms_nodeReverse a0 a1 a2 a3 := by kernel_rfl
theorem hc_ms_nodeReverse (a0 : PA) (a1 : PA) (a2 : Value) (a3 : Bool) {h : H} {R : Value → H → Prop} (hw : wp Try.prog (M_ms_nodeReverse a0 a1 a2 a3) (Ret R) h) : HC Try.prog fn_ms_nodeReverse (List.map AV.val [.c (.addr a0), .c (.addr a1), .c (.raw a2), .c (.bool a3)]).toArray h R :=
  den_calls hmix Try.func104 (of_decide_eq_true rfl) (by rw [den_ms_nodeReverse]; exact hw)
def M_ns_keys (a0 : PA) (a1p : Option PA) (a1l : Nat) (a1c : Nat) : M :=
  .call fn_ns_leaf [.c (.addr a0)] false [.c (.bool)] fun r0 =>
  .ite (r0.fst)
  (.bind (some 0) (.loop [.c (.int .i64), .c (.sl)] [.c (.int .i64 (0)), .c (.sl (a1p) (a1l) (a1c))] fun y1 =>
        .load (a0.fst, a0.snd + 2) (.sl) fun s2 =>
        .ite (decide (y1.fst < (↑s2.snd.fst : Int)))
        (.load (a0.fst, a0.snd + 2) (.sl) fun s3 =>
          .nonnil (s3.fst) fun p4 =>
          .guard (((0 : Int) ≤ y1.fst) ∧ ((y1.fst : Int) < (↑s3.snd.fst : Int))) <|
          .load (p4.fst, p4.snd + Int.toNat y1.fst) (.int .i64) fun i5 =>
          .alloc ty_int [.int .i64 (i5)] fun n6 =>
          .append ty_int 1 8 [.int .i64 (0)] ((y1.snd.fst.fst), y1.snd.fst.snd.fst, y1.snd.fst.snd.snd) ((some (n6, 0)), 1, 1) fun s7 =>
          .guard (InK IntKind.i64 (y1.fst + 1)) <|
          .done .normal [.c (.int .i64 (y1.fst + 1)), .c (.sl (s7.fst) (s7.snd.fst) (s7.snd.snd))])
        (.done (.exit 0) [.c (.sl (y1.snd.fst.fst) (y1.snd.fst.snd.fst) (y1.snd.fst.snd.snd))])) [.c (.sl)] fun x8 =>
    .done .ret [.c (.sl (x8.fst.fst) (x8.fst.snd.fst) (x8.fst.snd.snd))])
  (.bind (some 2) (.loop [.c (.int .i64), .c (.sl)] [.c (.int .i64 (0)), .c (.sl (a1p) (a1l) (a1c))] fun y9 =>
        .load (a0.fst, a0.snd + 2) (.sl) fun s10 =>
        .ite (decide (y9.fst < (↑s10.snd.fst : Int)))
        (.load (a0.fst, a0.snd + 3) (.ptr) fun q11 =>
          .nonnil (q11) fun p12 =>
          .load p12 (.sl) fun s13 =>
          .nonnil (s13.fst) fun p14 =>
          .guard (((0 : Int) ≤ y9.fst) ∧ ((y9.fst : Int) < (↑s13.snd.fst : Int))) <|
          .load (p14.fst, p14.snd + Int.toNat y9.fst) (.ptr) fun q15 =>
          .call fn_ns_keys [.c (.ptr (q15)), .c (.sl (y9.snd.fst.fst) (y9.snd.fst.snd.fst) (y9.snd.fst.snd.snd))] false [.c (.sl)] fun r16 =>
          .load (a0.fst, a0.snd + 2) (.sl) fun s17 =>
          .nonnil (s17.fst) fun p18 =>
          .guard (((0 : Int) ≤ y9.fst) ∧ ((y9.fst : Int) < (↑s17.snd.fst : Int))) <|
          .load (p18.fst, p18.snd + Int.toNat y9.fst) (.int .i64) fun i19 =>
          .alloc ty_int [.int .i64 (i19)] fun n20 =>
          .append ty_int 1 8 [.int .i64 (0)] ((r16.fst.fst), r16.fst.snd.fst, r16.fst.snd.snd) ((some (n20, 0)), 1, 1) fun s21 =>
          .guard (InK IntKind.i64 (y9.fst + 1)) <|
          .done .normal [.c (.int .i64 (y9.fst + 1)), .c (.sl (s21.fst) (s21.snd.fst) (s21.snd.snd))])
        (.done (.exit 2) [.c (.sl (y9.snd.fst.fst) (y9.snd.fst.snd.fst) (y9.snd.fst.snd.snd))])) [.c (.sl)] fun x22 =>
    .load (a0.fst, a0.snd + 3) (.ptr) fun q23 =>
    .nonnil (q23) fun p24 =>
    .load p24 (.sl) fun s25 =>
    .load (a0.fst, a0.snd + 3) (.ptr) fun q26 =>
    .nonnil (q26) fun p27 =>
    .load p27 (.sl) fun s28 =>
    .guard (InK IntKind.i64 ((↑s28.snd.fst : Int) - 1)) <|
    .nonnil (s25.fst) fun p29 =>
    .guard (((0 : Int) ≤ (↑s28.snd.fst : Int) - 1) ∧ (((↑s28.snd.fst : Int) - 1 : Int) < (↑s25.snd.fst : Int))) <|
    .load (p29.fst, p29.snd + ((↑s28.snd.fst : Int) - 1).toNat) (.ptr) fun q30 =>
    .call fn_ns_keys [.c (.ptr (q30)), .c (.sl (x22.fst.fst) (x22.fst.snd.fst) (x22.fst.snd.snd))] false [.c (.sl)] fun r31 =>
    .done .ret [.c (.sl (r31.fst.fst) (r31.fst.snd.fst) (r31.fst.snd.snd))])
theorem den_ns_keys (a0 : PA) (a1p : Option PA) (a1l : Nat) (a1c : Nat) : denFn Try.prog Try.f90 [.c (.addr a0), .c (.sl a1p a1l a1c)] = M_ns_keys a0 a1p a1l a1c := by kernel_rfl
theorem hc_ns_keys (a0 : PA) (a1p : Option PA) (a1l : Nat) (a1c : Nat) {h : H} {R : Value → H → Prop} (hw : wp Try.prog (M_ns_keys a0 a1p a1l a1c) (Ret R) h) : HC Try.prog fn_ns_keys (List.map AV.val [.c (.addr a0), .c (.sl a1p a1l a1c)]).toArray h R :=
  den_calls hmix Try.func90 (of_decide_eq_true rfl) (by rw [den_ns_keys]; exact hw)
end Go.Proofs.Ytpbmahnieepmiaa
