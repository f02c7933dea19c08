/-
  Functions of the translation as typed programs, and that each is its function's reading. Written by a program of ours (gen2.py). Conditions: none.
-/
import Derived.Test.YtkhpbcckaenmcaaNm
namespace Go.Proofs.Ytkhpbcckaenmcaa
open Go
set_option maxRecDepth 100000
set_option linter.unusedVariables false

def M_NewMap_int_int (a0 : Int) : M :=
  .alloc ty_btree_Map_int_int [.int .u64 (0), .ptr none, .ptr none, .int .i64 (0), .int .i64 (0), .int .i64 (0), .int .i64 (0), .int .i64 (0), .ff, .ff] fun n0 =>
  .call fn_mi_init [.c (.addr (n0, 0)), .c (.int .i64 (a0))] true [] fun r1 =>
  .done .ret [.c (.addr (n0, 0))]

theorem den_NewMap_int_int (a0 : Int) : denFn Try.prog Try.f82 [.c (.int .i64 a0)] = M_NewMap_int_int a0 := by kernel_rfl
theorem hc_NewMap_int_int (a0 : Int) {h : H} {R : Value → H → Prop} (hw : wp Try.prog (M_NewMap_int_int a0) (Ret R) h) : HC Try.prog fn_NewMap_int_int (List.map AV.val [.c (.int .i64 a0)]).toArray h R :=
  den_calls hmix Try.func82 (of_decide_eq_true rfl) (by rw [den_NewMap_int_int]; exact hw)

def M_degreeToMinMax (a0 : Int) : M :=
  .bind none (.ite (decide (a0 ≤ 0))
    (.done .normal [.c (.int .i64 (32))])
    (.bind none (.ite (a0 == 1)
        (.done .normal [.c (.int .i64 (2))])
        (.done .normal [.c (.int .i64 (a0))])) [.c (.int .i64)] fun x0 =>
      .done .normal [.c (.int .i64 (x0.fst))])) [.c (.int .i64)] fun x1 =>
  .guard (InK IntKind.i64 (x1.fst * 2)) <|
  .guard (InK IntKind.i64 (x1.fst * 2 - 1)) <|
  .guard (((2 : Int) ≠ 0) ∧ (InK IntKind.i64 ((x1.fst * 2 - 1).tdiv 2))) <|
  .done .ret [.c (.int .i64 ((x1.fst * 2 - 1).tdiv 2)), .c (.int .i64 (x1.fst * 2 - 1))]

theorem den_degreeToMinMax (a0 : Int) : denFn Try.prog Try.f125 [.c (.int .i64 a0)] = M_degreeToMinMax a0 := by kernel_rfl
theorem hc_degreeToMinMax (a0 : Int) {h : H} {R : Value → H → Prop} (hw : wp Try.prog (M_degreeToMinMax a0) (Ret R) h) : HC Try.prog fn_degreeToMinMax (List.map AV.val [.c (.int .i64 a0)]).toArray h R :=
  den_calls hmix Try.func125 (of_decide_eq_true rfl) (by rw [den_degreeToMinMax]; exact hw)

def M_mi_Ascend (a0 : PA) (a1 : Int) (a2 : Value) : M :=
  .call fn_mi_ascend [.c (.addr a0), .c (.int .i64 (a1)), .c (.raw (a2)), .c (.ff)] true [] fun r0 =>
  .done .ret []

theorem den_mi_Ascend (a0 : PA) (a1 : Int) (a2 : Value) : denFn Try.prog Try.f87 [.c (.addr a0), .c (.int .i64 a1), .c (.raw a2)] = M_mi_Ascend a0 a1 a2 := by kernel_rfl
theorem hc_mi_Ascend (a0 : PA) (a1 : Int) (a2 : Value) {h : H} {R : Value → H → Prop} (hw : wp Try.prog (M_mi_Ascend a0 a1 a2) (Ret R) h) : HC Try.prog fn_mi_Ascend (List.map AV.val [.c (.addr a0), .c (.int .i64 a1), .c (.raw a2)]).toArray h R :=
  den_calls hmix Try.func87 (of_decide_eq_true rfl) (by rw [den_mi_Ascend]; exact hw)

def M_mi_Delete (a0 : PA) (a1 : Int) : M :=
  .load (a0.fst, a0.snd + 2) (.ptr) fun q0 =>
  .ite (Option.isNone q0)
  (.load (a0.fst, a0.snd + 4) (.int .i64) fun i1 =>
    .done .ret [.c (.int .i64 (i1)), .c (.ff)])
  (.call fn_mi_delete [.c (.addr a0), .c (.addr (a0.fst, a0.snd + 2)), .c (.ff), .c (.int .i64 (a1))] true [.agg [.int .i64, .int .i64], .c (.bool)] fun r2 =>
    .alloc ty_btree_mapPair_int_int [.int .i64 (0), .int .i64 (0)] fun n3 =>
    .store (n3, 0) (.int .i64 (r2.fst.fst)) <|
    .store (n3, 1) (.int .i64 (r2.fst.snd.fst)) <|
    .ite (!r2.snd.fst)
    (.load (a0.fst, a0.snd + 4) (.int .i64) fun i4 =>
      .done .ret [.c (.int .i64 (i4)), .c (.ff)])
    (.bind none (.load (a0.fst, a0.snd + 2) (.ptr) fun q5 =>
        .nonnil (q5) fun p6 =>
        .load (p6.fst, p6.snd + 2) (.sl) fun s7 =>
        .ite ((↑s7.snd.fst : Int) == 0)
        (.load (a0.fst, a0.snd + 2) (.ptr) fun q8 =>
          .call fn_ni_leaf [.c (.ptr (q8))] false [.c (.bool)] fun r9 =>
          .done .normal [.c (.bool (!r9.fst))])
        (.done .normal [.c (.ff)])) [.c (.bool)] fun x10 =>
      .bind none (.ite (x10.fst)
        (.load (a0.fst, a0.snd + 2) (.ptr) fun q11 =>
          .nonnil (q11) fun p12 =>
          .load (p12.fst, p12.snd + 3) (.ptr) fun q13 =>
          .nonnil (q13) fun p14 =>
          .load p14 (.sl) fun s15 =>
          .nonnil (s15.fst) fun p16 =>
          .guard (((0 : Int) ≤ 0) ∧ ((0 : Int) < (↑s15.snd.fst : Int))) <|
          .load (p16.fst, p16.snd) (.ptr) fun q17 =>
          .store (a0.fst, a0.snd + 2) (.ptr (q17)) <|
          .done .normal [])
        (.done .normal [])) [] fun x18 =>
      .load (a0.fst, a0.snd + 3) (.int .i64) fun i19 =>
      .guard (InK IntKind.i64 (i19 - 1)) <|
      .store (a0.fst, a0.snd + 3) (.int .i64 (i19 - 1)) <|
      .load (a0.fst, a0.snd + 3) (.int .i64) fun i20 =>
      .bind none (.ite (i20 == 0)
        (.store (a0.fst, a0.snd + 2) (.ptr none) <|
          .done .normal [])
        (.done .normal [])) [] fun x21 =>
      .load (n3, 0) (.int .i64) fun i22 =>
      .done .ret [.c (.int .i64 (i22)), .c (.tt)]))

theorem den_mi_Delete (a0 : PA) (a1 : Int) : denFn Try.prog Try.f69 [.c (.addr a0), .c (.int .i64 a1)] = M_mi_Delete a0 a1 := by kernel_rfl
theorem hc_mi_Delete (a0 : PA) (a1 : Int) {h : H} {R : Value → H → Prop} (hw : wp Try.prog (M_mi_Delete a0 a1) (Ret R) h) : HC Try.prog fn_mi_Delete (List.map AV.val [.c (.addr a0), .c (.int .i64 a1)]).toArray h R :=
  den_calls hmix Try.func69 (of_decide_eq_true rfl) (by rw [den_mi_Delete]; exact hw)

def M_mi_DeleteAt (a0 : PA) (a1 : Int) : M :=
  .bind none (.load (a0.fst, a0.snd + 2) (.ptr) fun q0 =>
    .ite (Option.isNone q0)
    (.done .normal [.c (.tt)])
    (.ite (decide (a1 < 0))
      (.done .normal [.c (.tt)])
      (.load (a0.fst, a0.snd + 3) (.int .i64) fun i1 =>
        .done .normal [.c (.bool (decide (a1 ≥ i1)))]))) [.c (.bool)] fun x2 =>
  .ite (x2.fst)
  (.load (a0.fst, a0.snd + 5) (.int .i64) fun i3 =>
    .load (a0.fst, a0.snd + 4) (.int .i64) fun i4 =>
    .done .ret [.c (.int .i64 (i3)), .c (.int .i64 (i4)), .c (.ff)])
  (.alloc ty_8_uint8 [.int .u8 (0), .int .u8 (0), .int .u8 (0), .int .u8 (0), .int .u8 (0), .int .u8 (0), .int .u8 (0), .int .u8 (0)] fun n5 =>
    .guard (((0 : Int) ≤ 0) ∧ ((0 : Int) ≤ (↑8 : Int))) <|
    .alloc ty_btree_mapPair_int_int [.int .i64 (0), .int .i64 (0)] fun n6 =>
    .call fn_mi_isoLoad [.c (.addr a0), .c (.addr (a0.fst, a0.snd + 2)), .c (.tt)] false [.c (.ptr)] fun r7 =>
    .bind (some 0) (.loop [.c (.ptr), .c (.int .i64), .c (.sl)] [.c (.ptr (r7.fst)), .c (.int .i64 (a1)), .c (.sl (slBase (some (n5, 0)) 8 0 1) (0) (8))] fun y8 =>
        .nonnil (y8.fst) fun p9 =>
        .load (p9.fst, p9.snd + 1) (.int .i64) fun i10 =>
        .guard (InK IntKind.i64 (i10 - 1)) <|
        .nonnil (y8.fst) fun p11 =>
        .store (p11.fst, p11.snd + 1) (.int .i64 (i10 - 1)) <|
        .call fn_ni_leaf [.c (.ptr (y8.fst))] false [.c (.bool)] fun r12 =>
        .ite (r12.fst)
        (.nonnil (y8.fst) fun p13 =>
          .load (p13.fst, p13.snd + 2) (.sl) fun s14 =>
          .nonnil (s14.fst) fun p15 =>
          .guard (((0 : Int) ≤ y8.snd.fst) ∧ ((y8.snd.fst : Int) < (↑s14.snd.fst : Int))) <|
          .load (p15.fst, p15.snd + mulN (Int.toNat y8.snd.fst) 2) (.int .i64) fun i16 =>
          .load (p15.fst, p15.snd + mulN (Int.toNat y8.snd.fst) 2 + 1) (.int .i64) fun i17 =>
          .store (n6, 0) (.int .i64 (i16)) <|
          .store (n6, 1) (.int .i64 (i17)) <|
          .nonnil (y8.fst) fun p18 =>
          .load (p18.fst, p18.snd + 2) (.sl) fun s19 =>
          .load (a0.fst, a0.snd + 6) (.int .i64) fun i20 =>
          .ite ((↑s19.snd.fst : Int) == i20)
          (.guard (InK IntKind.u8 y8.snd.fst) <|
            .alloc ty_uint8 [.int .u8 (y8.snd.fst)] fun n21 =>
            .append ty_uint8 1 1 [.int .u8 (0)] ((y8.snd.snd.fst.fst), y8.snd.snd.fst.snd.fst, y8.snd.snd.fst.snd.snd) ((some (n21, 0)), 1, 1) fun s22 =>
            .done (.exit 0) [.c (.sl (s22.fst) (s22.snd.fst) (s22.snd.snd))])
          (.nonnil (y8.fst) fun p23 =>
            .load (p23.fst, p23.snd + 2) (.sl) fun s24 =>
            .guard (((0 : Int) ≤ y8.snd.fst) ∧ ((y8.snd.fst : Int) ≤ (↑s24.snd.fst : Int))) <|
            .nonnil (y8.fst) fun p25 =>
            .load (p25.fst, p25.snd + 2) (.sl) fun s26 =>
            .guard (InK IntKind.i64 (y8.snd.fst + 1)) <|
            .guard (((0 : Int) ≤ y8.snd.fst + 1) ∧ ((y8.snd.fst + 1 : Int) ≤ (↑s26.snd.fst : Int))) <|
            .copy 2 ((slBase s24.fst s24.snd.snd (Int.toNat y8.snd.fst) 2), s24.snd.fst - Int.toNat y8.snd.fst, s24.snd.snd - Int.toNat y8.snd.fst) ((slBase s26.fst s26.snd.snd (y8.snd.fst + 1).toNat 2), s26.snd.fst - (y8.snd.fst + 1).toNat, s26.snd.snd - (y8.snd.fst + 1).toNat) fun m27 =>
            .nonnil (y8.fst) fun p28 =>
            .load (p28.fst, p28.snd + 2) (.sl) fun s29 =>
            .nonnil (y8.fst) fun p30 =>
            .load (p30.fst, p30.snd + 2) (.sl) fun s31 =>
            .guard (InK IntKind.i64 ((↑s31.snd.fst : Int) - 1)) <|
            .load (a0.fst, a0.snd + 4) (.int .i64) fun i32 =>
            .load (a0.fst, a0.snd + 5) (.int .i64) fun i33 =>
            .nonnil (s29.fst) fun p34 =>
            .guard (((0 : Int) ≤ (↑s31.snd.fst : Int) - 1) ∧ (((↑s31.snd.fst : Int) - 1 : Int) < (↑s29.snd.fst : Int))) <|
            .store (p34.fst, p34.snd + mulN ((↑s31.snd.fst : Int) - 1).toNat 2) (.int .i64 (i32)) <|
            .store (p34.fst, p34.snd + mulN ((↑s31.snd.fst : Int) - 1).toNat 2 + 1) (.int .i64 (i33)) <|
            .nonnil (y8.fst) fun p35 =>
            .load (p35.fst, p35.snd + 2) (.sl) fun s36 =>
            .nonnil (y8.fst) fun p37 =>
            .load (p37.fst, p37.snd + 2) (.sl) fun s38 =>
            .guard (InK IntKind.i64 ((↑s38.snd.fst : Int) - 1)) <|
            .guard (((0 : Int) ≤ (↑s38.snd.fst : Int) - 1) ∧ (((↑s38.snd.fst : Int) - 1 : Int) ≤ (↑s36.snd.snd : Int))) <|
            .nonnil (y8.fst) fun p39 =>
            .store (p39.fst, p39.snd + 2) (.sl (slBase s36.fst s36.snd.snd 0 2) (((↑s38.snd.fst : Int) - 1).toNat - 0) (s36.snd.snd - 0)) <|
            .load (a0.fst, a0.snd + 3) (.int .i64) fun i40 =>
            .guard (InK IntKind.i64 (i40 - 1)) <|
            .store (a0.fst, a0.snd + 3) (.int .i64 (i40 - 1)) <|
            .load (a0.fst, a0.snd + 3) (.int .i64) fun i41 =>
            .bind none (.ite (i41 == 0)
              (.store (a0.fst, a0.snd + 2) (.ptr none) <|
                .done .normal [])
              (.done .normal [])) [] fun x42 =>
            .load (n6, 1) (.int .i64) fun i43 =>
            .load (n6, 0) (.int .i64) fun i44 =>
            .done .ret [.c (.int .i64 (i43)), .c (.int .i64 (i44)), .c (.tt)]))
        (.bind (some 2) (.loop [.c (.int .i64), .c (.int .i64), .c (.sl)] [.c (.int .i64 (0)), .c (.int .i64 (y8.snd.fst)), .c (.sl (y8.snd.snd.fst.fst) (y8.snd.snd.fst.snd.fst) (y8.snd.snd.fst.snd.snd))] fun y45 =>
              .nonnil (y8.fst) fun p46 =>
              .load (p46.fst, p46.snd + 2) (.sl) fun s47 =>
              .ite (decide (y45.fst < (↑s47.snd.fst : Int)))
              (.nonnil (y8.fst) fun p48 =>
                .load (p48.fst, p48.snd + 3) (.ptr) fun q49 =>
                .nonnil (q49) fun p50 =>
                .load p50 (.sl) fun s51 =>
                .nonnil (s51.fst) fun p52 =>
                .guard (((0 : Int) ≤ y45.fst) ∧ ((y45.fst : Int) < (↑s51.snd.fst : Int))) <|
                .load (p52.fst, p52.snd + Int.toNat y45.fst) (.ptr) fun q53 =>
                .nonnil (q53) fun p54 =>
                .load (p54.fst, p54.snd + 1) (.int .i64) fun i55 =>
                .ite (decide (y45.snd.fst < i55))
                (.done (.exit 2) [.c (.int .i64 (y45.fst)), .c (.int .i64 (y45.snd.fst)), .c (.sl (y45.snd.snd.fst.fst) (y45.snd.snd.fst.snd.fst) (y45.snd.snd.fst.snd.snd))])
                (.nonnil (y8.fst) fun p56 =>
                  .load (p56.fst, p56.snd + 3) (.ptr) fun q57 =>
                  .nonnil (q57) fun p58 =>
                  .load p58 (.sl) fun s59 =>
                  .nonnil (s59.fst) fun p60 =>
                  .guard (((0 : Int) ≤ y45.fst) ∧ ((y45.fst : Int) < (↑s59.snd.fst : Int))) <|
                  .load (p60.fst, p60.snd + Int.toNat y45.fst) (.ptr) fun q61 =>
                  .nonnil (q61) fun p62 =>
                  .load (p62.fst, p62.snd + 1) (.int .i64) fun i63 =>
                  .ite (y45.snd.fst == i63)
                  (.nonnil (y8.fst) fun p64 =>
                    .load (p64.fst, p64.snd + 2) (.sl) fun s65 =>
                    .nonnil (s65.fst) fun p66 =>
                    .guard (((0 : Int) ≤ y45.fst) ∧ ((y45.fst : Int) < (↑s65.snd.fst : Int))) <|
                    .load (p66.fst, p66.snd + mulN (Int.toNat y45.fst) 2) (.int .i64) fun i67 =>
                    .load (p66.fst, p66.snd + mulN (Int.toNat y45.fst) 2 + 1) (.int .i64) fun i68 =>
                    .store (n6, 0) (.int .i64 (i67)) <|
                    .store (n6, 1) (.int .i64 (i68)) <|
                    .guard (InK IntKind.u8 y45.fst) <|
                    .alloc ty_uint8 [.int .u8 (y45.fst)] fun n69 =>
                    .append ty_uint8 1 1 [.int .u8 (0)] ((y45.snd.snd.fst.fst), y45.snd.snd.fst.snd.fst, y45.snd.snd.fst.snd.snd) ((some (n69, 0)), 1, 1) fun s70 =>
                    .done (.exit 0) [.c (.sl (s70.fst) (s70.snd.fst) (s70.snd.snd))])
                  (.nonnil (y8.fst) fun p71 =>
                    .load (p71.fst, p71.snd + 3) (.ptr) fun q72 =>
                    .nonnil (q72) fun p73 =>
                    .load p73 (.sl) fun s74 =>
                    .nonnil (s74.fst) fun p75 =>
                    .guard (((0 : Int) ≤ y45.fst) ∧ ((y45.fst : Int) < (↑s74.snd.fst : Int))) <|
                    .load (p75.fst, p75.snd + Int.toNat y45.fst) (.ptr) fun q76 =>
                    .nonnil (q76) fun p77 =>
                    .load (p77.fst, p77.snd + 1) (.int .i64) fun i78 =>
                    .guard (InK IntKind.i64 (i78 + 1)) <|
                    .guard (InK IntKind.i64 (y45.snd.fst - (i78 + 1))) <|
                    .guard (InK IntKind.i64 (y45.fst + 1)) <|
                    .done .normal [.c (.int .i64 (y45.fst + 1)), .c (.int .i64 (y45.snd.fst - (i78 + 1))), .c (.sl (y45.snd.snd.fst.fst) (y45.snd.snd.fst.snd.fst) (y45.snd.snd.fst.snd.snd))])))
              (.done (.exit 2) [.c (.int .i64 (y45.fst)), .c (.int .i64 (y45.snd.fst)), .c (.sl (y45.snd.snd.fst.fst) (y45.snd.snd.fst.snd.fst) (y45.snd.snd.fst.snd.snd))])) [.c (.int .i64), .c (.int .i64), .c (.sl)] fun x79 =>
          .guard (InK IntKind.u8 x79.fst) <|
          .alloc ty_uint8 [.int .u8 (x79.fst)] fun n80 =>
          .append ty_uint8 1 1 [.int .u8 (0)] ((x79.snd.snd.fst.fst), x79.snd.snd.fst.snd.fst, x79.snd.snd.fst.snd.snd) ((some (n80, 0)), 1, 1) fun s81 =>
          .nonnil (y8.fst) fun p82 =>
          .load (p82.fst, p82.snd + 3) (.ptr) fun q83 =>
          .nonnil (q83) fun p84 =>
          .load p84 (.sl) fun s85 =>
          .nonnil (s85.fst) fun p86 =>
          .guard (((0 : Int) ≤ x79.fst) ∧ ((x79.fst : Int) < (↑s85.snd.fst : Int))) <|
          .call fn_mi_isoLoad [.c (.addr a0), .c (.addr (p86.fst, p86.snd + Int.toNat x79.fst)), .c (.tt)] false [.c (.ptr)] fun r87 =>
          .done .normal [.c (.ptr (r87.fst)), .c (.int .i64 (x79.snd.fst)), .c (.sl (s81.fst) (s81.snd.fst) (s81.snd.snd))])) [.c (.sl)] fun x88 =>
    .load (a0.fst, a0.snd + 2) (.ptr) fun q89 =>
    .bind (some 4) (.loop [.c (.int .i64), .c (.ptr)] [.c (.int .i64 (0)), .c (.ptr (q89))] fun y90 =>
        .ite (decide (y90.fst < (↑x88.fst.snd.fst : Int)))
        (.nonnil (y90.snd.fst) fun p91 =>
          .load (p91.fst, p91.snd + 1) (.int .i64) fun i92 =>
          .guard (InK IntKind.i64 (i92 + 1)) <|
          .nonnil (y90.snd.fst) fun p93 =>
          .store (p93.fst, p93.snd + 1) (.int .i64 (i92 + 1)) <|
          .call fn_ni_leaf [.c (.ptr (y90.snd.fst))] false [.c (.bool)] fun r94 =>
          .bind none (.ite (!r94.fst)
            (.nonnil (y90.snd.fst) fun p95 =>
              .load (p95.fst, p95.snd + 3) (.ptr) fun q96 =>
              .nonnil (q96) fun p97 =>
              .load p97 (.sl) fun s98 =>
              .nonnil (x88.fst.fst) fun p99 =>
              .guard (((0 : Int) ≤ y90.fst) ∧ ((y90.fst : Int) < (↑x88.fst.snd.fst : Int))) <|
              .load (p99.fst, p99.snd + Int.toNat y90.fst) (.int .u8) fun i100 =>
              .nonnil (s98.fst) fun p101 =>
              .guard (((0 : Int) ≤ i100) ∧ ((i100 : Int) < (↑s98.snd.fst : Int))) <|
              .load (p101.fst, p101.snd + Int.toNat i100) (.ptr) fun q102 =>
              .done .normal [.c (.ptr (q102))])
            (.done .normal [.c (.ptr (y90.snd.fst))])) [.c (.ptr)] fun x103 =>
          .guard (InK IntKind.i64 (y90.fst + 1)) <|
          .done .normal [.c (.int .i64 (y90.fst + 1)), .c (.ptr (x103.fst))])
        (.done (.exit 4) [])) [] fun x104 =>
    .load (n6, 1) (.int .i64) fun i105 =>
    .call fn_mi_Delete [.c (.addr a0), .c (.int .i64 (i105))] true [.c (.int .i64), .c (.bool)] fun r106 =>
    .ite (r106.snd.fst)
    (.load (n6, 1) (.int .i64) fun i107 =>
      .done .ret [.c (.int .i64 (i107)), .c (.int .i64 (r106.fst)), .c (.tt)])
    (.load (a0.fst, a0.snd + 5) (.int .i64) fun i108 =>
      .load (a0.fst, a0.snd + 4) (.int .i64) fun i109 =>
      .done .ret [.c (.int .i64 (i108)), .c (.int .i64 (i109)), .c (.ff)]))

theorem den_mi_DeleteAt (a0 : PA) (a1 : Int) : denFn Try.prog Try.f64 [.c (.addr a0), .c (.int .i64 a1)] = M_mi_DeleteAt a0 a1 := by kernel_rfl
theorem hc_mi_DeleteAt (a0 : PA) (a1 : Int) {h : H} {R : Value → H → Prop} (hw : wp Try.prog (M_mi_DeleteAt a0 a1) (Ret R) h) : HC Try.prog fn_mi_DeleteAt (List.map AV.val [.c (.addr a0), .c (.int .i64 a1)]).toArray h R :=
  den_calls hmix Try.func64 (of_decide_eq_true rfl) (by rw [den_mi_DeleteAt]; exact hw)

def M_mi_Get (a0 : PA) (a1 : Int) : M :=
  .call fn_mi_get [.c (.addr a0), .c (.int .i64 (a1)), .c (.ff)] true [.c (.int .i64), .c (.bool)] fun r0 =>
  .done .ret [.c (.int .i64 (r0.fst)), .c (.bool (r0.snd.fst))]

theorem den_mi_Get (a0 : PA) (a1 : Int) : denFn Try.prog Try.f68 [.c (.addr a0), .c (.int .i64 a1)] = M_mi_Get a0 a1 := by kernel_rfl
theorem hc_mi_Get (a0 : PA) (a1 : Int) {h : H} {R : Value → H → Prop} (hw : wp Try.prog (M_mi_Get a0 a1) (Ret R) h) : HC Try.prog fn_mi_Get (List.map AV.val [.c (.addr a0), .c (.int .i64 a1)]).toArray h R :=
  den_calls hmix Try.func68 (of_decide_eq_true rfl) (by rw [den_mi_Get]; exact hw)

def M_mi_GetMut (a0 : PA) (a1 : Int) : M :=
  .call fn_mi_get [.c (.addr a0), .c (.int .i64 (a1)), .c (.tt)] true [.c (.int .i64), .c (.bool)] fun r0 =>
  .done .ret [.c (.int .i64 (r0.fst)), .c (.bool (r0.snd.fst))]

theorem den_mi_GetMut (a0 : PA) (a1 : Int) : denFn Try.prog Try.f79 [.c (.addr a0), .c (.int .i64 a1)] = M_mi_GetMut a0 a1 := by kernel_rfl
theorem hc_mi_GetMut (a0 : PA) (a1 : Int) {h : H} {R : Value → H → Prop} (hw : wp Try.prog (M_mi_GetMut a0 a1) (Ret R) h) : HC Try.prog fn_mi_GetMut (List.map AV.val [.c (.addr a0), .c (.int .i64 a1)]).toArray h R :=
  den_calls hmix Try.func79 (of_decide_eq_true rfl) (by rw [den_mi_GetMut]; exact hw)

def M_mi_Iter (a0 : PA) : M :=
  .alloc ty_btree_MapIter_int_int [.ptr none, .ff, .ff, .ff, .ff, .sl none (0) (0), .int .i64 (0), .int .i64 (0)] fun n0 =>
  .call fn_mi_iter [.c (.addr a0), .c (.ff)] false [.agg [.ptr, .bool, .bool, .bool, .bool, .sl, .int .i64, .int .i64]] fun r1 =>
  .store (n0, 0) (.ptr (r1.fst.fst)) <|
  .store (n0, 1) (.bool (r1.fst.snd.fst)) <|
  .store (n0, 2) (.bool (r1.fst.snd.snd.fst)) <|
  .store (n0, 3) (.bool (r1.fst.snd.snd.snd.fst)) <|
  .store (n0, 4) (.bool (r1.fst.snd.snd.snd.snd.fst)) <|
  .store (n0, 5) (.sl (r1.fst.snd.snd.snd.snd.snd.fst.fst) (r1.fst.snd.snd.snd.snd.snd.fst.snd.fst) (r1.fst.snd.snd.snd.snd.snd.fst.snd.snd)) <|
  .store (n0, 6) (.int .i64 (r1.fst.snd.snd.snd.snd.snd.snd.fst)) <|
  .store (n0, 7) (.int .i64 (r1.fst.snd.snd.snd.snd.snd.snd.snd.fst)) <|
  .load (n0, 0) (.ptr) fun q2 =>
  .load (n0, 1) (.bool) fun b3 =>
  .load (n0, 2) (.bool) fun b4 =>
  .load (n0, 3) (.bool) fun b5 =>
  .load (n0, 4) (.bool) fun b6 =>
  .load (n0, 5) (.sl) fun s7 =>
  .load (n0, 6) (.int .i64) fun i8 =>
  .load (n0, 7) (.int .i64) fun i9 =>
  .done .ret [.agg [.ptr (q2), .bool (b3), .bool (b4), .bool (b5), .bool (b6), .sl (s7.fst) (s7.snd.fst) (s7.snd.snd), .int .i64 (i8), .int .i64 (i9)]]

theorem den_mi_Iter (a0 : PA) : denFn Try.prog Try.f89 [.c (.addr a0)] = M_mi_Iter a0 := by kernel_rfl
theorem hc_mi_Iter (a0 : PA) {h : H} {R : Value → H → Prop} (hw : wp Try.prog (M_mi_Iter a0) (Ret R) h) : HC Try.prog fn_mi_Iter (List.map AV.val [.c (.addr a0)]).toArray h R :=
  den_calls hmix Try.func89 (of_decide_eq_true rfl) (by rw [den_mi_Iter]; exact hw)

def M_mi_KeyValues (a0 : PA) : M :=
  .call fn_mi_keyValues [.c (.addr a0), .c (.ff)] true [.c (.sl), .c (.sl)] fun r0 =>
  .done .ret [.c (.sl (r0.fst.fst) (r0.fst.snd.fst) (r0.fst.snd.snd)), .c (.sl (r0.snd.fst.fst) (r0.snd.fst.snd.fst) (r0.snd.fst.snd.snd))]

theorem den_mi_KeyValues (a0 : PA) : denFn Try.prog Try.f67 [.c (.addr a0)] = M_mi_KeyValues a0 := by kernel_rfl
theorem hc_mi_KeyValues (a0 : PA) {h : H} {R : Value → H → Prop} (hw : wp Try.prog (M_mi_KeyValues a0) (Ret R) h) : HC Try.prog fn_mi_KeyValues (List.map AV.val [.c (.addr a0)]).toArray h R :=
  den_calls hmix Try.func67 (of_decide_eq_true rfl) (by rw [den_mi_KeyValues]; exact hw)

def M_mi_Keys (a0 : PA) : M :=
  .call fn_mi_Len [.c (.addr a0)] false [.c (.int .i64)] fun r0 =>
  .make ty_int 1 8 [.int .i64 (0)] (0) (r0.fst) fun s1 =>
  .load (a0.fst, a0.snd + 2) (.ptr) fun q2 =>
  .bind none (.ite (!Option.isNone q2)
    (.load (a0.fst, a0.snd + 2) (.ptr) fun q3 =>
      .call fn_ni_keys [.c (.ptr (q3)), .c (.sl (s1.fst) (s1.snd.fst) (s1.snd.snd))] false [.c (.sl)] fun r4 =>
      .done .normal [.c (.sl (r4.fst.fst) (r4.fst.snd.fst) (r4.fst.snd.snd))])
    (.done .normal [.c (.sl (s1.fst) (s1.snd.fst) (s1.snd.snd))])) [.c (.sl)] fun x5 =>
  .done .ret [.c (.sl (x5.fst.fst) (x5.fst.snd.fst) (x5.fst.snd.snd))]

theorem den_mi_Keys (a0 : PA) : denFn Try.prog Try.f55 [.c (.addr a0)] = M_mi_Keys a0 := by kernel_rfl
theorem hc_mi_Keys (a0 : PA) {h : H} {R : Value → H → Prop} (hw : wp Try.prog (M_mi_Keys a0) (Ret R) h) : HC Try.prog fn_mi_Keys (List.map AV.val [.c (.addr a0)]).toArray h R :=
  den_calls hmix Try.func55 (of_decide_eq_true rfl) (by rw [den_mi_Keys]; exact hw)

def M_mi_Len (a0 : PA) : M :=
  .load (a0.fst, a0.snd + 3) (.int .i64) fun i0 =>
  .done .ret [.c (.int .i64 (i0))]

theorem den_mi_Len (a0 : PA) : denFn Try.prog Try.f84 [.c (.addr a0)] = M_mi_Len a0 := by kernel_rfl
theorem hc_mi_Len (a0 : PA) {h : H} {R : Value → H → Prop} (hw : wp Try.prog (M_mi_Len a0) (Ret R) h) : HC Try.prog fn_mi_Len (List.map AV.val [.c (.addr a0)]).toArray h R :=
  den_calls hmix Try.func84 (of_decide_eq_true rfl) (by rw [den_mi_Len]; exact hw)

def M_mi_MaxMut (a0 : PA) : M :=
  .call fn_mi_maxMut [.c (.addr a0), .c (.tt)] true [.c (.int .i64), .c (.int .i64), .c (.bool)] fun r0 =>
  .done .ret [.c (.int .i64 (r0.fst)), .c (.int .i64 (r0.snd.fst)), .c (.bool (r0.snd.snd.fst))]

theorem den_mi_MaxMut (a0 : PA) : denFn Try.prog Try.f76 [.c (.addr a0)] = M_mi_MaxMut a0 := by kernel_rfl
theorem hc_mi_MaxMut (a0 : PA) {h : H} {R : Value → H → Prop} (hw : wp Try.prog (M_mi_MaxMut a0) (Ret R) h) : HC Try.prog fn_mi_MaxMut (List.map AV.val [.c (.addr a0)]).toArray h R :=
  den_calls hmix Try.func76 (of_decide_eq_true rfl) (by rw [den_mi_MaxMut]; exact hw)

def M_mi_PopMax (a0 : PA) : M :=
  .load (a0.fst, a0.snd + 2) (.ptr) fun q0 =>
  .ite (Option.isNone q0)
  (.load (a0.fst, a0.snd + 5) (.int .i64) fun i1 =>
    .load (a0.fst, a0.snd + 4) (.int .i64) fun i2 =>
    .done .ret [.c (.int .i64 (i1)), .c (.int .i64 (i2)), .c (.ff)])
  (.call fn_mi_isoLoad [.c (.addr a0), .c (.addr (a0.fst, a0.snd + 2)), .c (.tt)] false [.c (.ptr)] fun r3 =>
    .alloc ty_btree_mapPair_int_int [.int .i64 (0), .int .i64 (0)] fun n4 =>
    .bind (some 0) (.loop [.c (.ptr)] [.c (.ptr (r3.fst))] fun y5 =>
        .nonnil (y5.fst) fun p6 =>
        .load (p6.fst, p6.snd + 1) (.int .i64) fun i7 =>
        .guard (InK IntKind.i64 (i7 - 1)) <|
        .nonnil (y5.fst) fun p8 =>
        .store (p8.fst, p8.snd + 1) (.int .i64 (i7 - 1)) <|
        .call fn_ni_leaf [.c (.ptr (y5.fst))] false [.c (.bool)] fun r9 =>
        .ite (r9.fst)
        (.nonnil (y5.fst) fun p10 =>
          .load (p10.fst, p10.snd + 2) (.sl) fun s11 =>
          .nonnil (y5.fst) fun p12 =>
          .load (p12.fst, p12.snd + 2) (.sl) fun s13 =>
          .guard (InK IntKind.i64 ((↑s13.snd.fst : Int) - 1)) <|
          .nonnil (s11.fst) fun p14 =>
          .guard (((0 : Int) ≤ (↑s13.snd.fst : Int) - 1) ∧ (((↑s13.snd.fst : Int) - 1 : Int) < (↑s11.snd.fst : Int))) <|
          .load (p14.fst, p14.snd + mulN ((↑s13.snd.fst : Int) - 1).toNat 2) (.int .i64) fun i15 =>
          .load (p14.fst, p14.snd + mulN ((↑s13.snd.fst : Int) - 1).toNat 2 + 1) (.int .i64) fun i16 =>
          .store (n4, 0) (.int .i64 (i15)) <|
          .store (n4, 1) (.int .i64 (i16)) <|
          .nonnil (y5.fst) fun p17 =>
          .load (p17.fst, p17.snd + 2) (.sl) fun s18 =>
          .load (a0.fst, a0.snd + 6) (.int .i64) fun i19 =>
          .ite ((↑s18.snd.fst : Int) == i19)
          (.done (.exit 0) [])
          (.nonnil (y5.fst) fun p20 =>
            .load (p20.fst, p20.snd + 2) (.sl) fun s21 =>
            .nonnil (y5.fst) fun p22 =>
            .load (p22.fst, p22.snd + 2) (.sl) fun s23 =>
            .guard (InK IntKind.i64 ((↑s23.snd.fst : Int) - 1)) <|
            .load (a0.fst, a0.snd + 4) (.int .i64) fun i24 =>
            .load (a0.fst, a0.snd + 5) (.int .i64) fun i25 =>
            .nonnil (s21.fst) fun p26 =>
            .guard (((0 : Int) ≤ (↑s23.snd.fst : Int) - 1) ∧ (((↑s23.snd.fst : Int) - 1 : Int) < (↑s21.snd.fst : Int))) <|
            .store (p26.fst, p26.snd + mulN ((↑s23.snd.fst : Int) - 1).toNat 2) (.int .i64 (i24)) <|
            .store (p26.fst, p26.snd + mulN ((↑s23.snd.fst : Int) - 1).toNat 2 + 1) (.int .i64 (i25)) <|
            .nonnil (y5.fst) fun p27 =>
            .load (p27.fst, p27.snd + 2) (.sl) fun s28 =>
            .nonnil (y5.fst) fun p29 =>
            .load (p29.fst, p29.snd + 2) (.sl) fun s30 =>
            .guard (InK IntKind.i64 ((↑s30.snd.fst : Int) - 1)) <|
            .guard (((0 : Int) ≤ (↑s30.snd.fst : Int) - 1) ∧ (((↑s30.snd.fst : Int) - 1 : Int) ≤ (↑s28.snd.snd : Int))) <|
            .nonnil (y5.fst) fun p31 =>
            .store (p31.fst, p31.snd + 2) (.sl (slBase s28.fst s28.snd.snd 0 2) (((↑s30.snd.fst : Int) - 1).toNat - 0) (s28.snd.snd - 0)) <|
            .load (a0.fst, a0.snd + 3) (.int .i64) fun i32 =>
            .guard (InK IntKind.i64 (i32 - 1)) <|
            .store (a0.fst, a0.snd + 3) (.int .i64 (i32 - 1)) <|
            .load (a0.fst, a0.snd + 3) (.int .i64) fun i33 =>
            .bind none (.ite (i33 == 0)
              (.store (a0.fst, a0.snd + 2) (.ptr none) <|
                .done .normal [])
              (.done .normal [])) [] fun x34 =>
            .load (n4, 1) (.int .i64) fun i35 =>
            .load (n4, 0) (.int .i64) fun i36 =>
            .done .ret [.c (.int .i64 (i35)), .c (.int .i64 (i36)), .c (.tt)]))
        (.nonnil (y5.fst) fun p37 =>
          .load (p37.fst, p37.snd + 3) (.ptr) fun q38 =>
          .nonnil (q38) fun p39 =>
          .load p39 (.sl) fun s40 =>
          .nonnil (y5.fst) fun p41 =>
          .load (p41.fst, p41.snd + 3) (.ptr) fun q42 =>
          .nonnil (q42) fun p43 =>
          .load p43 (.sl) fun s44 =>
          .guard (InK IntKind.i64 ((↑s44.snd.fst : Int) - 1)) <|
          .nonnil (s40.fst) fun p45 =>
          .guard (((0 : Int) ≤ (↑s44.snd.fst : Int) - 1) ∧ (((↑s44.snd.fst : Int) - 1 : Int) < (↑s40.snd.fst : Int))) <|
          .call fn_mi_isoLoad [.c (.addr a0), .c (.addr (p45.fst, p45.snd + ((↑s44.snd.fst : Int) - 1).toNat)), .c (.tt)] false [.c (.ptr)] fun r46 =>
          .done .normal [.c (.ptr (r46.fst))])) [] fun x47 =>
    .load (a0.fst, a0.snd + 2) (.ptr) fun q48 =>
    .bind (some 2) (.loop [.c (.ptr)] [.c (.ptr (q48))] fun y49 =>
        .nonnil (y49.fst) fun p50 =>
        .load (p50.fst, p50.snd + 1) (.int .i64) fun i51 =>
        .guard (InK IntKind.i64 (i51 + 1)) <|
        .nonnil (y49.fst) fun p52 =>
        .store (p52.fst, p52.snd + 1) (.int .i64 (i51 + 1)) <|
        .call fn_ni_leaf [.c (.ptr (y49.fst))] false [.c (.bool)] fun r53 =>
        .ite (r53.fst)
        (.done (.exit 2) [])
        (.nonnil (y49.fst) fun p54 =>
          .load (p54.fst, p54.snd + 3) (.ptr) fun q55 =>
          .nonnil (q55) fun p56 =>
          .load p56 (.sl) fun s57 =>
          .nonnil (y49.fst) fun p58 =>
          .load (p58.fst, p58.snd + 3) (.ptr) fun q59 =>
          .nonnil (q59) fun p60 =>
          .load p60 (.sl) fun s61 =>
          .guard (InK IntKind.i64 ((↑s61.snd.fst : Int) - 1)) <|
          .nonnil (s57.fst) fun p62 =>
          .guard (((0 : Int) ≤ (↑s61.snd.fst : Int) - 1) ∧ (((↑s61.snd.fst : Int) - 1 : Int) < (↑s57.snd.fst : Int))) <|
          .load (p62.fst, p62.snd + ((↑s61.snd.fst : Int) - 1).toNat) (.ptr) fun q63 =>
          .done .normal [.c (.ptr (q63))])) [] fun x64 =>
    .load (n4, 1) (.int .i64) fun i65 =>
    .call fn_mi_Delete [.c (.addr a0), .c (.int .i64 (i65))] true [.c (.int .i64), .c (.bool)] fun r66 =>
    .ite (r66.snd.fst)
    (.load (n4, 1) (.int .i64) fun i67 =>
      .done .ret [.c (.int .i64 (i67)), .c (.int .i64 (r66.fst)), .c (.tt)])
    (.load (a0.fst, a0.snd + 5) (.int .i64) fun i68 =>
      .load (a0.fst, a0.snd + 4) (.int .i64) fun i69 =>
      .done .ret [.c (.int .i64 (i68)), .c (.int .i64 (i69)), .c (.ff)]))

theorem den_mi_PopMax (a0 : PA) : denFn Try.prog Try.f74 [.c (.addr a0)] = M_mi_PopMax a0 := by kernel_rfl
theorem hc_mi_PopMax (a0 : PA) {h : H} {R : Value → H → Prop} (hw : wp Try.prog (M_mi_PopMax a0) (Ret R) h) : HC Try.prog fn_mi_PopMax (List.map AV.val [.c (.addr a0)]).toArray h R :=
  den_calls hmix Try.func74 (of_decide_eq_true rfl) (by rw [den_mi_PopMax]; exact hw)

def M_mi_PopMin (a0 : PA) : M :=
  .load (a0.fst, a0.snd + 2) (.ptr) fun q0 =>
  .ite (Option.isNone q0)
  (.load (a0.fst, a0.snd + 5) (.int .i64) fun i1 =>
    .load (a0.fst, a0.snd + 4) (.int .i64) fun i2 =>
    .done .ret [.c (.int .i64 (i1)), .c (.int .i64 (i2)), .c (.ff)])
  (.call fn_mi_isoLoad [.c (.addr a0), .c (.addr (a0.fst, a0.snd + 2)), .c (.tt)] false [.c (.ptr)] fun r3 =>
    .alloc ty_btree_mapPair_int_int [.int .i64 (0), .int .i64 (0)] fun n4 =>
    .bind (some 0) (.loop [.c (.ptr)] [.c (.ptr (r3.fst))] fun y5 =>
        .nonnil (y5.fst) fun p6 =>
        .load (p6.fst, p6.snd + 1) (.int .i64) fun i7 =>
        .guard (InK IntKind.i64 (i7 - 1)) <|
        .nonnil (y5.fst) fun p8 =>
        .store (p8.fst, p8.snd + 1) (.int .i64 (i7 - 1)) <|
        .call fn_ni_leaf [.c (.ptr (y5.fst))] false [.c (.bool)] fun r9 =>
        .ite (r9.fst)
        (.nonnil (y5.fst) fun p10 =>
          .load (p10.fst, p10.snd + 2) (.sl) fun s11 =>
          .nonnil (s11.fst) fun p12 =>
          .guard (((0 : Int) ≤ 0) ∧ ((0 : Int) < (↑s11.snd.fst : Int))) <|
          .load (p12.fst, p12.snd) (.int .i64) fun i13 =>
          .load (p12.fst, p12.snd + 1) (.int .i64) fun i14 =>
          .store (n4, 0) (.int .i64 (i13)) <|
          .store (n4, 1) (.int .i64 (i14)) <|
          .nonnil (y5.fst) fun p15 =>
          .load (p15.fst, p15.snd + 2) (.sl) fun s16 =>
          .load (a0.fst, a0.snd + 6) (.int .i64) fun i17 =>
          .ite ((↑s16.snd.fst : Int) == i17)
          (.done (.exit 0) [])
          (.nonnil (y5.fst) fun p18 =>
            .load (p18.fst, p18.snd + 2) (.sl) fun s19 =>
            .nonnil (y5.fst) fun p20 =>
            .load (p20.fst, p20.snd + 2) (.sl) fun s21 =>
            .guard (((0 : Int) ≤ 1) ∧ ((1 : Int) ≤ (↑s21.snd.fst : Int))) <|
            .copy 2 ((slBase s19.fst s19.snd.snd 0 2), s19.snd.fst - 0, s19.snd.snd - 0) ((slBase s21.fst s21.snd.snd 1 2), s21.snd.fst - 1, s21.snd.snd - 1) fun m22 =>
            .nonnil (y5.fst) fun p23 =>
            .load (p23.fst, p23.snd + 2) (.sl) fun s24 =>
            .nonnil (y5.fst) fun p25 =>
            .load (p25.fst, p25.snd + 2) (.sl) fun s26 =>
            .guard (InK IntKind.i64 ((↑s26.snd.fst : Int) - 1)) <|
            .load (a0.fst, a0.snd + 4) (.int .i64) fun i27 =>
            .load (a0.fst, a0.snd + 5) (.int .i64) fun i28 =>
            .nonnil (s24.fst) fun p29 =>
            .guard (((0 : Int) ≤ (↑s26.snd.fst : Int) - 1) ∧ (((↑s26.snd.fst : Int) - 1 : Int) < (↑s24.snd.fst : Int))) <|
            .store (p29.fst, p29.snd + mulN ((↑s26.snd.fst : Int) - 1).toNat 2) (.int .i64 (i27)) <|
            .store (p29.fst, p29.snd + mulN ((↑s26.snd.fst : Int) - 1).toNat 2 + 1) (.int .i64 (i28)) <|
            .nonnil (y5.fst) fun p30 =>
            .load (p30.fst, p30.snd + 2) (.sl) fun s31 =>
            .nonnil (y5.fst) fun p32 =>
            .load (p32.fst, p32.snd + 2) (.sl) fun s33 =>
            .guard (InK IntKind.i64 ((↑s33.snd.fst : Int) - 1)) <|
            .guard (((0 : Int) ≤ (↑s33.snd.fst : Int) - 1) ∧ (((↑s33.snd.fst : Int) - 1 : Int) ≤ (↑s31.snd.snd : Int))) <|
            .nonnil (y5.fst) fun p34 =>
            .store (p34.fst, p34.snd + 2) (.sl (slBase s31.fst s31.snd.snd 0 2) (((↑s33.snd.fst : Int) - 1).toNat - 0) (s31.snd.snd - 0)) <|
            .load (a0.fst, a0.snd + 3) (.int .i64) fun i35 =>
            .guard (InK IntKind.i64 (i35 - 1)) <|
            .store (a0.fst, a0.snd + 3) (.int .i64 (i35 - 1)) <|
            .load (a0.fst, a0.snd + 3) (.int .i64) fun i36 =>
            .bind none (.ite (i36 == 0)
              (.store (a0.fst, a0.snd + 2) (.ptr none) <|
                .done .normal [])
              (.done .normal [])) [] fun x37 =>
            .load (n4, 1) (.int .i64) fun i38 =>
            .load (n4, 0) (.int .i64) fun i39 =>
            .done .ret [.c (.int .i64 (i38)), .c (.int .i64 (i39)), .c (.tt)]))
        (.nonnil (y5.fst) fun p40 =>
          .load (p40.fst, p40.snd + 3) (.ptr) fun q41 =>
          .nonnil (q41) fun p42 =>
          .load p42 (.sl) fun s43 =>
          .nonnil (s43.fst) fun p44 =>
          .guard (((0 : Int) ≤ 0) ∧ ((0 : Int) < (↑s43.snd.fst : Int))) <|
          .call fn_mi_isoLoad [.c (.addr a0), .c (.addr (p44.fst, p44.snd)), .c (.tt)] false [.c (.ptr)] fun r45 =>
          .done .normal [.c (.ptr (r45.fst))])) [] fun x46 =>
    .load (a0.fst, a0.snd + 2) (.ptr) fun q47 =>
    .bind (some 2) (.loop [.c (.ptr)] [.c (.ptr (q47))] fun y48 =>
        .nonnil (y48.fst) fun p49 =>
        .load (p49.fst, p49.snd + 1) (.int .i64) fun i50 =>
        .guard (InK IntKind.i64 (i50 + 1)) <|
        .nonnil (y48.fst) fun p51 =>
        .store (p51.fst, p51.snd + 1) (.int .i64 (i50 + 1)) <|
        .call fn_ni_leaf [.c (.ptr (y48.fst))] false [.c (.bool)] fun r52 =>
        .ite (r52.fst)
        (.done (.exit 2) [])
        (.nonnil (y48.fst) fun p53 =>
          .load (p53.fst, p53.snd + 3) (.ptr) fun q54 =>
          .nonnil (q54) fun p55 =>
          .load p55 (.sl) fun s56 =>
          .nonnil (s56.fst) fun p57 =>
          .guard (((0 : Int) ≤ 0) ∧ ((0 : Int) < (↑s56.snd.fst : Int))) <|
          .load (p57.fst, p57.snd) (.ptr) fun q58 =>
          .done .normal [.c (.ptr (q58))])) [] fun x59 =>
    .load (n4, 1) (.int .i64) fun i60 =>
    .call fn_mi_Delete [.c (.addr a0), .c (.int .i64 (i60))] true [.c (.int .i64), .c (.bool)] fun r61 =>
    .ite (r61.snd.fst)
    (.load (n4, 1) (.int .i64) fun i62 =>
      .done .ret [.c (.int .i64 (i62)), .c (.int .i64 (r61.fst)), .c (.tt)])
    (.load (a0.fst, a0.snd + 5) (.int .i64) fun i63 =>
      .load (a0.fst, a0.snd + 4) (.int .i64) fun i64 =>
      .done .ret [.c (.int .i64 (i63)), .c (.int .i64 (i64)), .c (.ff)]))

theorem den_mi_PopMin (a0 : PA) : denFn Try.prog Try.f75 [.c (.addr a0)] = M_mi_PopMin a0 := by kernel_rfl
theorem hc_mi_PopMin (a0 : PA) {h : H} {R : Value → H → Prop} (hw : wp Try.prog (M_mi_PopMin a0) (Ret R) h) : HC Try.prog fn_mi_PopMin (List.map AV.val [.c (.addr a0)]).toArray h R :=
  den_calls hmix Try.func75 (of_decide_eq_true rfl) (by rw [den_mi_PopMin]; exact hw)

def M_mi_Scan (a0 : PA) (a1 : Value) : M :=
  .call fn_mi_scan [.c (.addr a0), .c (.raw (a1)), .c (.ff)] true [] fun r0 =>
  .done .ret []

theorem den_mi_Scan (a0 : PA) (a1 : Value) : denFn Try.prog Try.f70 [.c (.addr a0), .c (.raw a1)] = M_mi_Scan a0 a1 := by kernel_rfl
theorem hc_mi_Scan (a0 : PA) (a1 : Value) {h : H} {R : Value → H → Prop} (hw : wp Try.prog (M_mi_Scan a0 a1) (Ret R) h) : HC Try.prog fn_mi_Scan (List.map AV.val [.c (.addr a0), .c (.raw a1)]).toArray h R :=
  den_calls hmix Try.func70 (of_decide_eq_true rfl) (by rw [den_mi_Scan]; exact hw)

def M_mi_Set (a0 : PA) (a1 : Int) (a2 : Int) : M :=
  .alloc ty_btree_mapPair_int_int [.int .i64 (0), .int .i64 (0)] fun n0 =>
  .store (n0, 0) (.int .i64 (a2)) <|
  .store (n0, 1) (.int .i64 (a1)) <|
  .load (a0.fst, a0.snd + 2) (.ptr) fun q1 =>
  .ite (Option.isNone q1)
  (.call fn_mi_init [.c (.addr a0), .c (.int .i64 (0))] true [] fun r2 =>
    .call fn_mi_newNode [.c (.addr a0), .c (.tt)] false [.c (.ptr)] fun r3 =>
    .store (a0.fst, a0.snd + 2) (.ptr (r3.fst)) <|
    .bind none (.load (a0.fst, a0.snd + 2) (.ptr) fun q4 =>
      .load (n0, 0) (.int .i64) fun i5 =>
      .load (n0, 1) (.int .i64) fun i6 =>
      .both
      (.alloc ty_btree_mapPair_int_int [] fun n7 =>
        .held (n0, 0) (.int .i64 (i5)) <|
        .held (n0, 1) (.int .i64 (i6)) <|
        .held (a0.fst, a0.snd + 2) (.ptr (q4)) <|
        .alloc ty_btree_mapPair_int_int [.int .i64 (i5), .int .i64 (i6)] fun n8 =>
        .held (a0.fst, a0.snd + 2) (.ptr (q4)) <|
        .append ty_btree_mapPair_int_int 2 16 [.int .i64 (0), .int .i64 (0)] ((some (n7, 0)), 0, 0) ((some (n8, 0)), 1, 1) fun s9 =>
        .held (a0.fst, a0.snd + 2) (.ptr (q4)) <|
        .nonnil (q4) fun p10 =>
        .store (p10.fst, p10.snd + 2) (.sl (s9.fst) (s9.snd.fst) (s9.snd.snd)) <|
        .done .normal [])
      (.alloc ty_btree_mapPair_int_int [.int .i64 (i5), .int .i64 (i6)] fun n11 =>
        .held (a0.fst, a0.snd + 2) (.ptr (q4)) <|
        .alloc ty_btree_mapPair_int_int [] fun n12 =>
        .held (a0.fst, a0.snd + 2) (.ptr (q4)) <|
        .append ty_btree_mapPair_int_int 2 16 [.int .i64 (0), .int .i64 (0)] ((some (n12, 0)), 0, 0) ((some (n11, 0)), 1, 1) fun s13 =>
        .held (a0.fst, a0.snd + 2) (.ptr (q4)) <|
        .nonnil (q4) fun p14 =>
        .store (p14.fst, p14.snd + 2) (.sl (s13.fst) (s13.snd.fst) (s13.snd.snd)) <|
        .done .normal [])) [] fun x15 =>
    .load (a0.fst, a0.snd + 2) (.ptr) fun q16 =>
    .nonnil (q16) fun p17 =>
    .store (p17.fst, p17.snd + 1) (.int .i64 (1)) <|
    .store (a0.fst, a0.snd + 3) (.int .i64 (1)) <|
    .load (a0.fst, a0.snd + 4) (.int .i64) fun i18 =>
    .done .ret [.c (.int .i64 (i18)), .c (.ff)])
  (.load (n0, 0) (.int .i64) fun i19 =>
    .load (n0, 1) (.int .i64) fun i20 =>
    .call fn_mi_nodeSet [.c (.addr a0), .c (.addr (a0.fst, a0.snd + 2)), .agg [.int .i64 (i19), .int .i64 (i20)]] true [.c (.int .i64), .c (.bool), .c (.bool)] fun r21 =>
    .ite (r21.snd.snd.fst)
    (.load (a0.fst, a0.snd + 2) (.ptr) fun q22 =>
      .call fn_mi_nodeSplit [.c (.addr a0), .c (.ptr (q22))] true [.c (.ptr), .agg [.int .i64, .int .i64]] fun r23 =>
      .alloc ty_btree_mapPair_int_int [.int .i64 (0), .int .i64 (0)] fun n24 =>
      .store (n24, 0) (.int .i64 (r23.snd.fst.fst)) <|
      .store (n24, 1) (.int .i64 (r23.snd.fst.snd.fst)) <|
      .call fn_mi_newNode [.c (.addr a0), .c (.ff)] false [.c (.ptr)] fun r25 =>
      .store (a0.fst, a0.snd + 2) (.ptr (r25.fst)) <|
      .load (a0.fst, a0.snd + 2) (.ptr) fun q26 =>
      .nonnil (q26) fun p27 =>
      .load (p27.fst, p27.snd + 3) (.ptr) fun q28 =>
      .load (a0.fst, a0.snd + 7) (.int .i64) fun i29 =>
      .guard (InK IntKind.i64 (i29 + 1)) <|
      .make ty_p_btree_mapNode_int_int 1 8 [.ptr none] (0) (i29 + 1) fun s30 =>
      .held (p27.fst, p27.snd + 3) (.ptr (q28)) <|
      .held (a0.fst, a0.snd + 2) (.ptr (q26)) <|
      .nonnil (q28) fun p31 =>
      .store p31 (.sl (s30.fst) (s30.snd.fst) (s30.snd.snd)) <|
      .bind none (.load (a0.fst, a0.snd + 2) (.ptr) fun q32 =>
        .nonnil (q32) fun p33 =>
        .load (p33.fst, p33.snd + 3) (.ptr) fun q34 =>
        .both
        (.alloc ty_p_btree_mapNode_int_int [] fun n35 =>
          .held (p33.fst, p33.snd + 3) (.ptr (q34)) <|
          .held (a0.fst, a0.snd + 2) (.ptr (q32)) <|
          .alloc ty_p_btree_mapNode_int_int [.ptr (q22), .ptr (r23.fst)] fun n36 =>
          .held (p33.fst, p33.snd + 3) (.ptr (q34)) <|
          .held (a0.fst, a0.snd + 2) (.ptr (q32)) <|
          .append ty_p_btree_mapNode_int_int 1 8 [.ptr none] ((some (n35, 0)), 0, 0) ((some (n36, 0)), 2, 2) fun s37 =>
          .held (p33.fst, p33.snd + 3) (.ptr (q34)) <|
          .held (a0.fst, a0.snd + 2) (.ptr (q32)) <|
          .nonnil (q34) fun p38 =>
          .store p38 (.sl (s37.fst) (s37.snd.fst) (s37.snd.snd)) <|
          .done .normal [])
        (.alloc ty_p_btree_mapNode_int_int [.ptr (q22), .ptr (r23.fst)] fun n39 =>
          .held (p33.fst, p33.snd + 3) (.ptr (q34)) <|
          .held (a0.fst, a0.snd + 2) (.ptr (q32)) <|
          .alloc ty_p_btree_mapNode_int_int [] fun n40 =>
          .held (p33.fst, p33.snd + 3) (.ptr (q34)) <|
          .held (a0.fst, a0.snd + 2) (.ptr (q32)) <|
          .append ty_p_btree_mapNode_int_int 1 8 [.ptr none] ((some (n40, 0)), 0, 0) ((some (n39, 0)), 2, 2) fun s41 =>
          .held (p33.fst, p33.snd + 3) (.ptr (q34)) <|
          .held (a0.fst, a0.snd + 2) (.ptr (q32)) <|
          .nonnil (q34) fun p42 =>
          .store p42 (.sl (s41.fst) (s41.snd.fst) (s41.snd.snd)) <|
          .done .normal [])) [] fun x43 =>
      .bind none (.load (a0.fst, a0.snd + 2) (.ptr) fun q44 =>
        .load (n24, 0) (.int .i64) fun i45 =>
        .load (n24, 1) (.int .i64) fun i46 =>
        .both
        (.alloc ty_btree_mapPair_int_int [] fun n47 =>
          .held (n24, 0) (.int .i64 (i45)) <|
          .held (n24, 1) (.int .i64 (i46)) <|
          .held (a0.fst, a0.snd + 2) (.ptr (q44)) <|
          .alloc ty_btree_mapPair_int_int [.int .i64 (i45), .int .i64 (i46)] fun n48 =>
          .held (a0.fst, a0.snd + 2) (.ptr (q44)) <|
          .append ty_btree_mapPair_int_int 2 16 [.int .i64 (0), .int .i64 (0)] ((some (n47, 0)), 0, 0) ((some (n48, 0)), 1, 1) fun s49 =>
          .held (a0.fst, a0.snd + 2) (.ptr (q44)) <|
          .nonnil (q44) fun p50 =>
          .store (p50.fst, p50.snd + 2) (.sl (s49.fst) (s49.snd.fst) (s49.snd.snd)) <|
          .done .normal [])
        (.alloc ty_btree_mapPair_int_int [.int .i64 (i45), .int .i64 (i46)] fun n51 =>
          .held (a0.fst, a0.snd + 2) (.ptr (q44)) <|
          .alloc ty_btree_mapPair_int_int [] fun n52 =>
          .held (a0.fst, a0.snd + 2) (.ptr (q44)) <|
          .append ty_btree_mapPair_int_int 2 16 [.int .i64 (0), .int .i64 (0)] ((some (n52, 0)), 0, 0) ((some (n51, 0)), 1, 1) fun s53 =>
          .held (a0.fst, a0.snd + 2) (.ptr (q44)) <|
          .nonnil (q44) fun p54 =>
          .store (p54.fst, p54.snd + 2) (.sl (s53.fst) (s53.snd.fst) (s53.snd.snd)) <|
          .done .normal [])) [] fun x55 =>
      .load (a0.fst, a0.snd + 2) (.ptr) fun q56 =>
      .call fn_ni_updateCount [.c (.ptr (q56))] true [] fun r57 =>
      .load (n0, 1) (.int .i64) fun i58 =>
      .load (n0, 0) (.int .i64) fun i59 =>
      .call fn_mi_Set [.c (.addr a0), .c (.int .i64 (i58)), .c (.int .i64 (i59))] true [.c (.int .i64), .c (.bool)] fun r60 =>
      .done .ret [.c (.int .i64 (r60.fst)), .c (.bool (r60.snd.fst))])
    (.ite (r21.snd.fst)
      (.done .ret [.c (.int .i64 (r21.fst)), .c (.tt)])
      (.load (a0.fst, a0.snd + 3) (.int .i64) fun i61 =>
        .guard (InK IntKind.i64 (i61 + 1)) <|
        .store (a0.fst, a0.snd + 3) (.int .i64 (i61 + 1)) <|
        .load (a0.fst, a0.snd + 4) (.int .i64) fun i62 =>
        .done .ret [.c (.int .i64 (i62)), .c (.ff)])))

theorem den_mi_Set (a0 : PA) (a1 : Int) (a2 : Int) : denFn Try.prog Try.f83 [.c (.addr a0), .c (.int .i64 a1), .c (.int .i64 a2)] = M_mi_Set a0 a1 a2 := by kernel_rfl
theorem hc_mi_Set (a0 : PA) (a1 : Int) (a2 : Int) {h : H} {R : Value → H → Prop} (hw : wp Try.prog (M_mi_Set a0 a1 a2) (Ret R) h) : HC Try.prog fn_mi_Set (List.map AV.val [.c (.addr a0), .c (.int .i64 a1), .c (.int .i64 a2)]).toArray h R :=
  den_calls hmix Try.func83 (of_decide_eq_true rfl) (by rw [den_mi_Set]; exact hw)

def M_mi_Values (a0 : PA) : M :=
  .call fn_mi_values [.c (.addr a0), .c (.ff)] false [.c (.sl)] fun r0 =>
  .done .ret [.c (.sl (r0.fst.fst) (r0.fst.snd.fst) (r0.fst.snd.snd))]

theorem den_mi_Values (a0 : PA) : denFn Try.prog Try.f56 [.c (.addr a0)] = M_mi_Values a0 := by kernel_rfl
theorem hc_mi_Values (a0 : PA) {h : H} {R : Value → H → Prop} (hw : wp Try.prog (M_mi_Values a0) (Ret R) h) : HC Try.prog fn_mi_Values (List.map AV.val [.c (.addr a0)]).toArray h R :=
  den_calls hmix Try.func56 (of_decide_eq_true rfl) (by rw [den_mi_Values]; exact hw)

def M_mi_ascend (a0 : PA) (a1 : Int) (a2 : Value) (a3 : Bool) : M :=
  .load (a0.fst, a0.snd + 2) (.ptr) fun q0 =>
  .ite (Option.isNone q0)
  (.done .ret [])
  (.call fn_mi_nodeAscend [.c (.addr a0), .c (.addr (a0.fst, a0.snd + 2)), .c (.int .i64 (a1)), .c (.raw (a2)), .c (.bool (a3))] false [.c (.bool)] fun r1 =>
    .done .ret [])

theorem den_mi_ascend (a0 : PA) (a1 : Int) (a2 : Value) (a3 : Bool) : denFn Try.prog Try.f109 [.c (.addr a0), .c (.int .i64 a1), .c (.raw a2), .c (.bool a3)] = M_mi_ascend a0 a1 a2 a3 := by kernel_rfl
theorem hc_mi_ascend (a0 : PA) (a1 : Int) (a2 : Value) (a3 : Bool) {h : H} {R : Value → H → Prop} (hw : wp Try.prog (M_mi_ascend a0 a1 a2 a3) (Ret R) h) : HC Try.prog fn_mi_ascend (List.map AV.val [.c (.addr a0), .c (.int .i64 a1), .c (.raw a2), .c (.bool a3)]).toArray h R :=
  den_calls hmix Try.func109 (of_decide_eq_true rfl) (by rw [den_mi_ascend]; exact hw)

def M_mi_delete (a0 : PA) (a1 : PA) (a2 : Bool) (a3 : Int) : M :=
  .alloc ty_btree_mapPair_int_int [.int .i64 (0), .int .i64 (0)] fun n0 =>
  .call fn_mi_isoLoad [.c (.addr a0), .c (.addr a1), .c (.tt)] false [.c (.ptr)] fun r1 =>
  .bind none (.ite (a2)
    (.nonnil (r1.fst) fun p2 =>
      .load (p2.fst, p2.snd + 2) (.sl) fun s3 =>
      .guard (InK IntKind.i64 ((↑s3.snd.fst : Int) - 1)) <|
      .done .normal [.c (.tt), .c (.int .i64 ((↑s3.snd.fst : Int) - 1))])
    (.call fn_mi_search [.c (.addr a0), .c (.ptr (r1.fst)), .c (.int .i64 (a3))] true [.c (.int .i64), .c (.bool)] fun r4 =>
      .done .normal [.c (.bool (r4.snd.fst)), .c (.int .i64 (r4.fst))])) [.c (.bool), .c (.int .i64)] fun x5 =>
  .call fn_ni_leaf [.c (.ptr (r1.fst))] false [.c (.bool)] fun r6 =>
  .ite (r6.fst)
  (.ite (x5.fst)
    (.nonnil (r1.fst) fun p7 =>
      .load (p7.fst, p7.snd + 2) (.sl) fun s8 =>
      .nonnil (s8.fst) fun p9 =>
      .guard (((0 : Int) ≤ x5.snd.fst) ∧ ((x5.snd.fst : Int) < (↑s8.snd.fst : Int))) <|
      .load (p9.fst, p9.snd + mulN (Int.toNat x5.snd.fst) 2) (.int .i64) fun i10 =>
      .load (p9.fst, p9.snd + mulN (Int.toNat x5.snd.fst) 2 + 1) (.int .i64) fun i11 =>
      .alloc ty_btree_mapPair_int_int [.int .i64 (0), .int .i64 (0)] fun n12 =>
      .store (n12, 0) (.int .i64 (i10)) <|
      .store (n12, 1) (.int .i64 (i11)) <|
      .nonnil (r1.fst) fun p13 =>
      .load (p13.fst, p13.snd + 2) (.sl) fun s14 =>
      .guard (((0 : Int) ≤ x5.snd.fst) ∧ ((x5.snd.fst : Int) ≤ (↑s14.snd.fst : Int))) <|
      .nonnil (r1.fst) fun p15 =>
      .load (p15.fst, p15.snd + 2) (.sl) fun s16 =>
      .guard (InK IntKind.i64 (x5.snd.fst + 1)) <|
      .guard (((0 : Int) ≤ x5.snd.fst + 1) ∧ ((x5.snd.fst + 1 : Int) ≤ (↑s16.snd.fst : Int))) <|
      .copy 2 ((slBase s14.fst s14.snd.snd (Int.toNat x5.snd.fst) 2), s14.snd.fst - Int.toNat x5.snd.fst, s14.snd.snd - Int.toNat x5.snd.fst) ((slBase s16.fst s16.snd.snd (x5.snd.fst + 1).toNat 2), s16.snd.fst - (x5.snd.fst + 1).toNat, s16.snd.snd - (x5.snd.fst + 1).toNat) fun m17 =>
      .nonnil (r1.fst) fun p18 =>
      .load (p18.fst, p18.snd + 2) (.sl) fun s19 =>
      .nonnil (r1.fst) fun p20 =>
      .load (p20.fst, p20.snd + 2) (.sl) fun s21 =>
      .guard (InK IntKind.i64 ((↑s21.snd.fst : Int) - 1)) <|
      .load (a0.fst, a0.snd + 4) (.int .i64) fun i22 =>
      .load (a0.fst, a0.snd + 5) (.int .i64) fun i23 =>
      .nonnil (s19.fst) fun p24 =>
      .guard (((0 : Int) ≤ (↑s21.snd.fst : Int) - 1) ∧ (((↑s21.snd.fst : Int) - 1 : Int) < (↑s19.snd.fst : Int))) <|
      .store (p24.fst, p24.snd + mulN ((↑s21.snd.fst : Int) - 1).toNat 2) (.int .i64 (i22)) <|
      .store (p24.fst, p24.snd + mulN ((↑s21.snd.fst : Int) - 1).toNat 2 + 1) (.int .i64 (i23)) <|
      .nonnil (r1.fst) fun p25 =>
      .load (p25.fst, p25.snd + 2) (.sl) fun s26 =>
      .nonnil (r1.fst) fun p27 =>
      .load (p27.fst, p27.snd + 2) (.sl) fun s28 =>
      .guard (InK IntKind.i64 ((↑s28.snd.fst : Int) - 1)) <|
      .guard (((0 : Int) ≤ (↑s28.snd.fst : Int) - 1) ∧ (((↑s28.snd.fst : Int) - 1 : Int) ≤ (↑s26.snd.snd : Int))) <|
      .nonnil (r1.fst) fun p29 =>
      .store (p29.fst, p29.snd + 2) (.sl (slBase s26.fst s26.snd.snd 0 2) (((↑s28.snd.fst : Int) - 1).toNat - 0) (s26.snd.snd - 0)) <|
      .nonnil (r1.fst) fun p30 =>
      .load (p30.fst, p30.snd + 1) (.int .i64) fun i31 =>
      .guard (InK IntKind.i64 (i31 - 1)) <|
      .nonnil (r1.fst) fun p32 =>
      .store (p32.fst, p32.snd + 1) (.int .i64 (i31 - 1)) <|
      .load (n12, 0) (.int .i64) fun i33 =>
      .load (n12, 1) (.int .i64) fun i34 =>
      .store (n0, 0) (.int .i64 (i33)) <|
      .store (n0, 1) (.int .i64 (i34)) <|
      .load (n0, 0) (.int .i64) fun i35 =>
      .load (n0, 1) (.int .i64) fun i36 =>
      .done .ret [.agg [.int .i64 (i35), .int .i64 (i36)], .c (.tt)])
    (.load (a0.fst, a0.snd + 4) (.int .i64) fun i37 =>
      .load (a0.fst, a0.snd + 5) (.int .i64) fun i38 =>
      .store (n0, 0) (.int .i64 (i37)) <|
      .store (n0, 1) (.int .i64 (i38)) <|
      .load (n0, 0) (.int .i64) fun i39 =>
      .load (n0, 1) (.int .i64) fun i40 =>
      .done .ret [.agg [.int .i64 (i39), .int .i64 (i40)], .c (.ff)]))
  (.alloc ty_btree_mapPair_int_int [.int .i64 (0), .int .i64 (0)] fun n41 =>
    .bind none (.ite (x5.fst)
      (.bind none (.ite (a2)
          (.guard (InK IntKind.i64 (x5.snd.fst + 1)) <|
            .nonnil (r1.fst) fun p42 =>
            .load (p42.fst, p42.snd + 3) (.ptr) fun q43 =>
            .nonnil (q43) fun p44 =>
            .load p44 (.sl) fun s45 =>
            .nonnil (s45.fst) fun p46 =>
            .guard (((0 : Int) ≤ x5.snd.fst + 1) ∧ ((x5.snd.fst + 1 : Int) < (↑s45.snd.fst : Int))) <|
            .load (a0.fst, a0.snd + 5) (.int .i64) fun i47 =>
            .call fn_mi_delete [.c (.addr a0), .c (.addr (p46.fst, p46.snd + (x5.snd.fst + 1).toNat)), .c (.tt), .c (.int .i64 (i47))] true [.agg [.int .i64, .int .i64], .c (.bool)] fun r48 =>
            .store (n41, 0) (.int .i64 (r48.fst.fst)) <|
            .store (n41, 1) (.int .i64 (r48.fst.snd.fst)) <|
            .done .normal [.c (.bool (r48.snd.fst)), .c (.int .i64 (x5.snd.fst + 1))])
          (.nonnil (r1.fst) fun p49 =>
            .load (p49.fst, p49.snd + 2) (.sl) fun s50 =>
            .nonnil (s50.fst) fun p51 =>
            .guard (((0 : Int) ≤ x5.snd.fst) ∧ ((x5.snd.fst : Int) < (↑s50.snd.fst : Int))) <|
            .load (p51.fst, p51.snd + mulN (Int.toNat x5.snd.fst) 2) (.int .i64) fun i52 =>
            .load (p51.fst, p51.snd + mulN (Int.toNat x5.snd.fst) 2 + 1) (.int .i64) fun i53 =>
            .store (n41, 0) (.int .i64 (i52)) <|
            .store (n41, 1) (.int .i64 (i53)) <|
            .bind none (.nonnil (r1.fst) fun p54 =>
              .load (p54.fst, p54.snd + 3) (.ptr) fun q55 =>
              .nonnil (q55) fun p56 =>
              .load p56 (.sl) fun s57 =>
              .nonnil (s57.fst) fun p58 =>
              .guard (((0 : Int) ≤ x5.snd.fst) ∧ ((x5.snd.fst : Int) < (↑s57.snd.fst : Int))) <|
              .load (a0.fst, a0.snd + 5) (.int .i64) fun i59 =>
              .both
              (.call fn_mi_delete [.c (.addr a0), .c (.addr (p58.fst, p58.snd + Int.toNat x5.snd.fst)), .c (.tt), .c (.int .i64 (i59))] true [.agg [.int .i64, .int .i64], .c (.bool)] fun r60 =>
                .alloc ty_btree_mapPair_int_int [.int .i64 (0), .int .i64 (0)] fun n61 =>
                .store (n61, 0) (.int .i64 (r60.fst.fst)) <|
                .store (n61, 1) (.int .i64 (r60.fst.snd.fst)) <|
                .done .normal [.c (.addr (n61, 0))])
              (.alloc ty_btree_mapPair_int_int [.int .i64 (0), .int .i64 (0)] fun n62 =>
                .held (a0.fst, a0.snd + 5) (.int .i64 (i59)) <|
                .held p56 (.sl (s57.fst) (s57.snd.fst) (s57.snd.snd)) <|
                .held (p54.fst, p54.snd + 3) (.ptr (q55)) <|
                .call fn_mi_delete [.c (.addr a0), .c (.addr (p58.fst, p58.snd + Int.toNat x5.snd.fst)), .c (.tt), .c (.int .i64 (i59))] true [.agg [.int .i64, .int .i64], .c (.bool)] fun r63 =>
                .store (n62, 0) (.int .i64 (r63.fst.fst)) <|
                .store (n62, 1) (.int .i64 (r63.fst.snd.fst)) <|
                .done .normal [.c (.addr (n62, 0))])) [.c (.addr)] fun x64 =>
            .nonnil (r1.fst) fun p65 =>
            .load (p65.fst, p65.snd + 2) (.sl) fun s66 =>
            .load x64.fst (.int .i64) fun i67 =>
            .load (x64.fst.fst, x64.fst.snd + 1) (.int .i64) fun i68 =>
            .nonnil (s66.fst) fun p69 =>
            .guard (((0 : Int) ≤ x5.snd.fst) ∧ ((x5.snd.fst : Int) < (↑s66.snd.fst : Int))) <|
            .store (p69.fst, p69.snd + mulN (Int.toNat x5.snd.fst) 2) (.int .i64 (i67)) <|
            .store (p69.fst, p69.snd + mulN (Int.toNat x5.snd.fst) 2 + 1) (.int .i64 (i68)) <|
            .done .normal [.c (.tt), .c (.int .i64 (x5.snd.fst))])) [.c (.bool), .c (.int .i64)] fun x70 =>
        .done .normal [.c (.bool (x70.fst)), .c (.int .i64 (x70.snd.fst))])
      (.nonnil (r1.fst) fun p71 =>
        .load (p71.fst, p71.snd + 3) (.ptr) fun q72 =>
        .nonnil (q72) fun p73 =>
        .load p73 (.sl) fun s74 =>
        .nonnil (s74.fst) fun p75 =>
        .guard (((0 : Int) ≤ x5.snd.fst) ∧ ((x5.snd.fst : Int) < (↑s74.snd.fst : Int))) <|
        .call fn_mi_delete [.c (.addr a0), .c (.addr (p75.fst, p75.snd + Int.toNat x5.snd.fst)), .c (.bool (a2)), .c (.int .i64 (a3))] true [.agg [.int .i64, .int .i64], .c (.bool)] fun r76 =>
        .store (n41, 0) (.int .i64 (r76.fst.fst)) <|
        .store (n41, 1) (.int .i64 (r76.fst.snd.fst)) <|
        .done .normal [.c (.bool (r76.snd.fst)), .c (.int .i64 (x5.snd.fst))])) [.c (.bool), .c (.int .i64)] fun x77 =>
    .ite (!x77.fst)
    (.load (a0.fst, a0.snd + 4) (.int .i64) fun i78 =>
      .load (a0.fst, a0.snd + 5) (.int .i64) fun i79 =>
      .store (n0, 0) (.int .i64 (i78)) <|
      .store (n0, 1) (.int .i64 (i79)) <|
      .load (n0, 0) (.int .i64) fun i80 =>
      .load (n0, 1) (.int .i64) fun i81 =>
      .done .ret [.agg [.int .i64 (i80), .int .i64 (i81)], .c (.ff)])
    (.nonnil (r1.fst) fun p82 =>
      .load (p82.fst, p82.snd + 1) (.int .i64) fun i83 =>
      .guard (InK IntKind.i64 (i83 - 1)) <|
      .nonnil (r1.fst) fun p84 =>
      .store (p84.fst, p84.snd + 1) (.int .i64 (i83 - 1)) <|
      .nonnil (r1.fst) fun p85 =>
      .load (p85.fst, p85.snd + 3) (.ptr) fun q86 =>
      .nonnil (q86) fun p87 =>
      .load p87 (.sl) fun s88 =>
      .nonnil (s88.fst) fun p89 =>
      .guard (((0 : Int) ≤ x77.snd.fst) ∧ ((x77.snd.fst : Int) < (↑s88.snd.fst : Int))) <|
      .load (p89.fst, p89.snd + Int.toNat x77.snd.fst) (.ptr) fun q90 =>
      .nonnil (q90) fun p91 =>
      .load (p91.fst, p91.snd + 2) (.sl) fun s92 =>
      .load (a0.fst, a0.snd + 6) (.int .i64) fun i93 =>
      .bind none (.ite (decide ((↑s92.snd.fst : Int) < i93))
        (.call fn_mi_nodeRebalance [.c (.addr a0), .c (.ptr (r1.fst)), .c (.int .i64 (x77.snd.fst))] true [] fun r94 =>
          .done .normal [])
        (.done .normal [])) [] fun x95 =>
      .load (n41, 0) (.int .i64) fun i96 =>
      .load (n41, 1) (.int .i64) fun i97 =>
      .store (n0, 0) (.int .i64 (i96)) <|
      .store (n0, 1) (.int .i64 (i97)) <|
      .load (n0, 0) (.int .i64) fun i98 =>
      .load (n0, 1) (.int .i64) fun i99 =>
      .done .ret [.agg [.int .i64 (i98), .int .i64 (i99)], .c (.tt)]))

theorem den_mi_delete (a0 : PA) (a1 : PA) (a2 : Bool) (a3 : Int) : denFn Try.prog Try.f97 [.c (.addr a0), .c (.addr a1), .c (.bool a2), .c (.int .i64 a3)] = M_mi_delete a0 a1 a2 a3 := by kernel_rfl
theorem hc_mi_delete (a0 : PA) (a1 : PA) (a2 : Bool) (a3 : Int) {h : H} {R : Value → H → Prop} (hw : wp Try.prog (M_mi_delete a0 a1 a2 a3) (Ret R) h) : HC Try.prog fn_mi_delete (List.map AV.val [.c (.addr a0), .c (.addr a1), .c (.bool a2), .c (.int .i64 a3)]).toArray h R :=
  den_calls hmix Try.func97 (of_decide_eq_true rfl) (by rw [den_mi_delete]; exact hw)

def M_mi_get (a0 : PA) (a1 : Int) (a2 : Bool) : M :=
  .load (a0.fst, a0.snd + 2) (.ptr) fun q0 =>
  .ite (Option.isNone q0)
  (.load (a0.fst, a0.snd + 4) (.int .i64) fun i1 =>
    .done .ret [.c (.int .i64 (i1)), .c (.ff)])
  (.call fn_mi_isoLoad [.c (.addr a0), .c (.addr (a0.fst, a0.snd + 2)), .c (.bool (a2))] false [.c (.ptr)] fun r2 =>
    .loop [.c (.ptr)] [.c (.ptr (r2.fst))] fun y3 =>
      .call fn_mi_search [.c (.addr a0), .c (.ptr (y3.fst)), .c (.int .i64 (a1))] true [.c (.int .i64), .c (.bool)] fun r4 =>
      .ite (r4.snd.fst)
      (.nonnil (y3.fst) fun p5 =>
        .load (p5.fst, p5.snd + 2) (.sl) fun s6 =>
        .nonnil (s6.fst) fun p7 =>
        .guard (((0 : Int) ≤ r4.fst) ∧ ((r4.fst : Int) < (↑s6.snd.fst : Int))) <|
        .load (p7.fst, p7.snd + mulN (Int.toNat r4.fst) 2) (.int .i64) fun i8 =>
        .done .ret [.c (.int .i64 (i8)), .c (.tt)])
      (.call fn_ni_leaf [.c (.ptr (y3.fst))] false [.c (.bool)] fun r9 =>
        .ite (r9.fst)
        (.load (a0.fst, a0.snd + 4) (.int .i64) fun i10 =>
          .done .ret [.c (.int .i64 (i10)), .c (.ff)])
        (.nonnil (y3.fst) fun p11 =>
          .load (p11.fst, p11.snd + 3) (.ptr) fun q12 =>
          .nonnil (q12) fun p13 =>
          .load p13 (.sl) fun s14 =>
          .nonnil (s14.fst) fun p15 =>
          .guard (((0 : Int) ≤ r4.fst) ∧ ((r4.fst : Int) < (↑s14.snd.fst : Int))) <|
          .call fn_mi_isoLoad [.c (.addr a0), .c (.addr (p15.fst, p15.snd + Int.toNat r4.fst)), .c (.bool (a2))] false [.c (.ptr)] fun r16 =>
          .done .normal [.c (.ptr (r16.fst))])))

theorem den_mi_get (a0 : PA) (a1 : Int) (a2 : Bool) : denFn Try.prog Try.f96 [.c (.addr a0), .c (.int .i64 a1), .c (.bool a2)] = M_mi_get a0 a1 a2 := by kernel_rfl
theorem hc_mi_get (a0 : PA) (a1 : Int) (a2 : Bool) {h : H} {R : Value → H → Prop} (hw : wp Try.prog (M_mi_get a0 a1 a2) (Ret R) h) : HC Try.prog fn_mi_get (List.map AV.val [.c (.addr a0), .c (.int .i64 a1), .c (.bool a2)]).toArray h R :=
  den_calls hmix Try.func96 (of_decide_eq_true rfl) (by rw [den_mi_get]; exact hw)

def M_mi_init (a0 : PA) (a1 : Int) : M :=
  .load (a0.fst, a0.snd + 6) (.int .i64) fun i0 =>
  .ite (i0 != 0)
  (.done .ret [])
  (.call fn_degreeToMinMax [.c (.int .i64 (a1))] true [.c (.int .i64), .c (.int .i64)] fun r1 =>
    .store (a0.fst, a0.snd + 6) (.int .i64 (r1.fst)) <|
    .store (a0.fst, a0.snd + 7) (.int .i64 (r1.snd.fst)) <|
    .load (a0.fst, a0.snd + 4) (.int .i64) fun i2 =>
    .store (a0.fst, a0.snd + 8) (.ff) <|
    .load (a0.fst, a0.snd + 8) (.bool) fun b3 =>
    .bind none (.ite (!b3)
      (.load (a0.fst, a0.snd + 4) (.int .i64) fun i4 =>
        .store (a0.fst, a0.snd + 9) (.ff) <|
        .done .normal [])
      (.done .normal [])) [] fun x5 =>
    .done .ret [])

theorem den_mi_init (a0 : PA) (a1 : Int) : denFn Try.prog Try.f103 [.c (.addr a0), .c (.int .i64 a1)] = M_mi_init a0 a1 := by kernel_rfl
theorem hc_mi_init (a0 : PA) (a1 : Int) {h : H} {R : Value → H → Prop} (hw : wp Try.prog (M_mi_init a0 a1) (Ret R) h) : HC Try.prog fn_mi_init (List.map AV.val [.c (.addr a0), .c (.int .i64 a1)]).toArray h R :=
  den_calls hmix Try.func103 (of_decide_eq_true rfl) (by rw [den_mi_init]; exact hw)

def M_mi_isoLoad (a0 : PA) (a1 : PA) (a2 : Bool) : M :=
  .bind none (.ite (a2)
    (.load a1 (.ptr) fun q0 =>
      .nonnil (q0) fun p1 =>
      .load (p1.fst, p1.snd) (.int .u64) fun i2 =>
      .load (a0.fst, a0.snd) (.int .u64) fun i3 =>
      .done .normal [.c (.bool (i2 != i3))])
    (.done .normal [.c (.ff)])) [.c (.bool)] fun x4 =>
  .bind none (.ite (x4.fst)
    (.load a1 (.ptr) fun q5 =>
      .call fn_mi_copy [.c (.addr a0), .c (.ptr (q5))] false [.c (.ptr)] fun r6 =>
      .store a1 (.ptr (r6.fst)) <|
      .done .normal [])
    (.done .normal [])) [] fun x7 =>
  .load a1 (.ptr) fun q8 =>
  .done .ret [.c (.ptr (q8))]

theorem den_mi_isoLoad (a0 : PA) (a1 : PA) (a2 : Bool) : denFn Try.prog Try.f93 [.c (.addr a0), .c (.addr a1), .c (.bool a2)] = M_mi_isoLoad a0 a1 a2 := by kernel_rfl
theorem hc_mi_isoLoad (a0 : PA) (a1 : PA) (a2 : Bool) {h : H} {R : Value → H → Prop} (hw : wp Try.prog (M_mi_isoLoad a0 a1 a2) (Ret R) h) : HC Try.prog fn_mi_isoLoad (List.map AV.val [.c (.addr a0), .c (.addr a1), .c (.bool a2)]).toArray h R :=
  den_calls hmix Try.func93 (of_decide_eq_true rfl) (by rw [den_mi_isoLoad]; exact hw)

def M_mi_iter (a0 : PA) (a1 : Bool) : M :=
  .alloc ty_btree_MapIter_int_int [.ptr none, .ff, .ff, .ff, .ff, .sl none (0) (0), .int .i64 (0), .int .i64 (0)] fun n0 =>
  .alloc ty_btree_MapIter_int_int [.ptr none, .ff, .ff, .ff, .ff, .sl none (0) (0), .int .i64 (0), .int .i64 (0)] fun n1 =>
  .store (n1, 0) (.addr a0) <|
  .store (n1, 1) (.bool (a1)) <|
  .load (n1, 0) (.ptr) fun q2 =>
  .load (n1, 1) (.bool) fun b3 =>
  .load (n1, 2) (.bool) fun b4 =>
  .load (n1, 3) (.bool) fun b5 =>
  .load (n1, 4) (.bool) fun b6 =>
  .load (n1, 5) (.sl) fun s7 =>
  .load (n1, 6) (.int .i64) fun i8 =>
  .load (n1, 7) (.int .i64) fun i9 =>
  .store (n0, 0) (.ptr (q2)) <|
  .store (n0, 1) (.bool (b3)) <|
  .store (n0, 2) (.bool (b4)) <|
  .store (n0, 3) (.bool (b5)) <|
  .store (n0, 4) (.bool (b6)) <|
  .store (n0, 5) (.sl (s7.fst) (s7.snd.fst) (s7.snd.snd)) <|
  .store (n0, 6) (.int .i64 (i8)) <|
  .store (n0, 7) (.int .i64 (i9)) <|
  .load (n0, 0) (.ptr) fun q10 =>
  .load (n0, 1) (.bool) fun b11 =>
  .load (n0, 2) (.bool) fun b12 =>
  .load (n0, 3) (.bool) fun b13 =>
  .load (n0, 4) (.bool) fun b14 =>
  .load (n0, 5) (.sl) fun s15 =>
  .load (n0, 6) (.int .i64) fun i16 =>
  .load (n0, 7) (.int .i64) fun i17 =>
  .done .ret [.agg [.ptr (q10), .bool (b11), .bool (b12), .bool (b13), .bool (b14), .sl (s15.fst) (s15.snd.fst) (s15.snd.snd), .int .i64 (i16), .int .i64 (i17)]]

theorem den_mi_iter (a0 : PA) (a1 : Bool) : denFn Try.prog Try.f110 [.c (.addr a0), .c (.bool a1)] = M_mi_iter a0 a1 := by kernel_rfl
theorem hc_mi_iter (a0 : PA) (a1 : Bool) {h : H} {R : Value → H → Prop} (hw : wp Try.prog (M_mi_iter a0 a1) (Ret R) h) : HC Try.prog fn_mi_iter (List.map AV.val [.c (.addr a0), .c (.bool a1)]).toArray h R :=
  den_calls hmix Try.func110 (of_decide_eq_true rfl) (by rw [den_mi_iter]; exact hw)

def M_mi_keyValues (a0 : PA) (a1 : Bool) : M :=
  .call fn_mi_Len [.c (.addr a0)] false [.c (.int .i64)] fun r0 =>
  .make ty_int 1 8 [.int .i64 (0)] (0) (r0.fst) fun s1 =>
  .call fn_mi_Len [.c (.addr a0)] false [.c (.int .i64)] fun r2 =>
  .make ty_int 1 8 [.int .i64 (0)] (0) (r2.fst) fun s3 =>
  .load (a0.fst, a0.snd + 2) (.ptr) fun q4 =>
  .bind none (.ite (!Option.isNone q4)
    (.call fn_mi_nodeKeyValues [.c (.addr a0), .c (.addr (a0.fst, a0.snd + 2)), .c (.sl (s1.fst) (s1.snd.fst) (s1.snd.snd)), .c (.sl (s3.fst) (s3.snd.fst) (s3.snd.snd)), .c (.bool (a1))] true [.c (.sl), .c (.sl)] fun r5 =>
      .done .normal [.c (.sl (r5.snd.fst.fst) (r5.snd.fst.snd.fst) (r5.snd.fst.snd.snd)), .c (.sl (r5.fst.fst) (r5.fst.snd.fst) (r5.fst.snd.snd))])
    (.done .normal [.c (.sl (s3.fst) (s3.snd.fst) (s3.snd.snd)), .c (.sl (s1.fst) (s1.snd.fst) (s1.snd.snd))])) [.c (.sl), .c (.sl)] fun x6 =>
  .done .ret [.c (.sl (x6.snd.fst.fst) (x6.snd.fst.snd.fst) (x6.snd.fst.snd.snd)), .c (.sl (x6.fst.fst) (x6.fst.snd.fst) (x6.fst.snd.snd))]

theorem den_mi_keyValues (a0 : PA) (a1 : Bool) : denFn Try.prog Try.f95 [.c (.addr a0), .c (.bool a1)] = M_mi_keyValues a0 a1 := by kernel_rfl
theorem hc_mi_keyValues (a0 : PA) (a1 : Bool) {h : H} {R : Value → H → Prop} (hw : wp Try.prog (M_mi_keyValues a0 a1) (Ret R) h) : HC Try.prog fn_mi_keyValues (List.map AV.val [.c (.addr a0), .c (.bool a1)]).toArray h R :=
  den_calls hmix Try.func95 (of_decide_eq_true rfl) (by rw [den_mi_keyValues]; exact hw)

def M_mi_maxMut (a0 : PA) (a1 : Bool) : M :=
  .load (a0.fst, a0.snd + 2) (.ptr) fun q0 =>
  .ite (Option.isNone q0)
  (.load (a0.fst, a0.snd + 5) (.int .i64) fun i1 =>
    .load (a0.fst, a0.snd + 4) (.int .i64) fun i2 =>
    .done .ret [.c (.int .i64 (i1)), .c (.int .i64 (i2)), .c (.ff)])
  (.call fn_mi_isoLoad [.c (.addr a0), .c (.addr (a0.fst, a0.snd + 2)), .c (.bool (a1))] false [.c (.ptr)] fun r3 =>
    .loop [.c (.ptr)] [.c (.ptr (r3.fst))] fun y4 =>
      .call fn_ni_leaf [.c (.ptr (y4.fst))] false [.c (.bool)] fun r5 =>
      .ite (r5.fst)
      (.nonnil (y4.fst) fun p6 =>
        .load (p6.fst, p6.snd + 2) (.sl) fun s7 =>
        .nonnil (y4.fst) fun p8 =>
        .load (p8.fst, p8.snd + 2) (.sl) fun s9 =>
        .guard (InK IntKind.i64 ((↑s9.snd.fst : Int) - 1)) <|
        .nonnil (s7.fst) fun p10 =>
        .guard (((0 : Int) ≤ (↑s9.snd.fst : Int) - 1) ∧ (((↑s9.snd.fst : Int) - 1 : Int) < (↑s7.snd.fst : Int))) <|
        .load (p10.fst, p10.snd + mulN ((↑s9.snd.fst : Int) - 1).toNat 2) (.int .i64) fun i11 =>
        .load (p10.fst, p10.snd + mulN ((↑s9.snd.fst : Int) - 1).toNat 2 + 1) (.int .i64) fun i12 =>
        .alloc ty_btree_mapPair_int_int [.int .i64 (0), .int .i64 (0)] fun n13 =>
        .held (p10.fst, p10.snd + mulN ((↑s9.snd.fst : Int) - 1).toNat 2) (.int .i64 (i11)) <|
        .held (p10.fst, p10.snd + mulN ((↑s9.snd.fst : Int) - 1).toNat 2 + 1) (.int .i64 (i12)) <|
        .held (p8.fst, p8.snd + 2) (.sl (s9.fst) (s9.snd.fst) (s9.snd.snd)) <|
        .held (p6.fst, p6.snd + 2) (.sl (s7.fst) (s7.snd.fst) (s7.snd.snd)) <|
        .store (n13, 0) (.int .i64 (i11)) <|
        .store (n13, 1) (.int .i64 (i12)) <|
        .load (n13, 1) (.int .i64) fun i14 =>
        .load (n13, 0) (.int .i64) fun i15 =>
        .done .ret [.c (.int .i64 (i14)), .c (.int .i64 (i15)), .c (.tt)])
      (.nonnil (y4.fst) fun p16 =>
        .load (p16.fst, p16.snd + 3) (.ptr) fun q17 =>
        .nonnil (q17) fun p18 =>
        .load p18 (.sl) fun s19 =>
        .nonnil (y4.fst) fun p20 =>
        .load (p20.fst, p20.snd + 3) (.ptr) fun q21 =>
        .nonnil (q21) fun p22 =>
        .load p22 (.sl) fun s23 =>
        .guard (InK IntKind.i64 ((↑s23.snd.fst : Int) - 1)) <|
        .nonnil (s19.fst) fun p24 =>
        .guard (((0 : Int) ≤ (↑s23.snd.fst : Int) - 1) ∧ (((↑s23.snd.fst : Int) - 1 : Int) < (↑s19.snd.fst : Int))) <|
        .call fn_mi_isoLoad [.c (.addr a0), .c (.addr (p24.fst, p24.snd + ((↑s23.snd.fst : Int) - 1).toNat)), .c (.bool (a1))] false [.c (.ptr)] fun r25 =>
        .done .normal [.c (.ptr (r25.fst))]))

theorem den_mi_maxMut (a0 : PA) (a1 : Bool) : denFn Try.prog Try.f101 [.c (.addr a0), .c (.bool a1)] = M_mi_maxMut a0 a1 := by kernel_rfl
theorem hc_mi_maxMut (a0 : PA) (a1 : Bool) {h : H} {R : Value → H → Prop} (hw : wp Try.prog (M_mi_maxMut a0 a1) (Ret R) h) : HC Try.prog fn_mi_maxMut (List.map AV.val [.c (.addr a0), .c (.bool a1)]).toArray h R :=
  den_calls hmix Try.func101 (of_decide_eq_true rfl) (by rw [den_mi_maxMut]; exact hw)

def M_mi_newNode (a0 : PA) (a1 : Bool) : M :=
  .alloc ty_btree_mapNode_int_int [.int .u64 (0), .int .i64 (0), .sl none (0) (0), .ptr none] fun n0 =>
  .load (a0.fst, a0.snd) (.int .u64) fun i1 =>
  .store (n0, 0) (.int .u64 (i1)) <|
  .bind none (.ite (!a1)
    (.alloc ty_sl_p_btree_mapNode_int_int [.sl none (0) (0)] fun n2 =>
      .store (n0, 3) (.addr (n2, 0)) <|
      .done .normal [])
    (.done .normal [])) [] fun x3 =>
  .done .ret [.c (.addr (n0, 0))]

theorem den_mi_newNode (a0 : PA) (a1 : Bool) : denFn Try.prog Try.f104 [.c (.addr a0), .c (.bool a1)] = M_mi_newNode a0 a1 := by kernel_rfl
theorem hc_mi_newNode (a0 : PA) (a1 : Bool) {h : H} {R : Value → H → Prop} (hw : wp Try.prog (M_mi_newNode a0 a1) (Ret R) h) : HC Try.prog fn_mi_newNode (List.map AV.val [.c (.addr a0), .c (.bool a1)]).toArray h R :=
  den_calls hmix Try.func104 (of_decide_eq_true rfl) (by rw [den_mi_newNode]; exact hw)

def M_mi_nodeAscend (a0 : PA) (a1 : PA) (a2 : Int) (a3 : Value) (a4 : Bool) : M :=
  .call fn_mi_isoLoad [.c (.addr a0), .c (.addr a1), .c (.bool (a4))] false [.c (.ptr)] fun r0 =>
  .call fn_mi_search [.c (.addr a0), .c (.ptr (r0.fst)), .c (.int .i64 (a2))] true [.c (.int .i64), .c (.bool)] fun r1 =>
  .bind none (.ite (!r1.snd.fst)
    (.call fn_ni_leaf [.c (.ptr (r0.fst))] false [.c (.bool)] fun r2 =>
      .bind none (.ite (!r2.fst)
        (.nonnil (r0.fst) fun p3 =>
          .load (p3.fst, p3.snd + 3) (.ptr) fun q4 =>
          .nonnil (q4) fun p5 =>
          .load p5 (.sl) fun s6 =>
          .nonnil (s6.fst) fun p7 =>
          .guard (((0 : Int) ≤ r1.fst) ∧ ((r1.fst : Int) < (↑s6.snd.fst : Int))) <|
          .call fn_mi_nodeAscend [.c (.addr a0), .c (.addr (p7.fst, p7.snd + Int.toNat r1.fst)), .c (.int .i64 (a2)), .c (.raw (a3)), .c (.bool (a4))] false [.c (.bool)] fun r8 =>
          .ite (!r8.fst)
          (.done .ret [.c (.ff)])
          (.done .normal []))
        (.done .normal [])) [] fun x9 =>
      .done .normal [])
    (.done .normal [])) [] fun x10 =>
  .bind (some 0) (.loop [.c (.int .i64)] [.c (.int .i64 (r1.fst))] fun y11 =>
      .nonnil (r0.fst) fun p12 =>
      .load (p12.fst, p12.snd + 2) (.sl) fun s13 =>
      .ite (decide (y11.fst < (↑s13.snd.fst : Int)))
      (.nonnil (r0.fst) fun p14 =>
        .load (p14.fst, p14.snd + 2) (.sl) fun s15 =>
        .nonnil (s15.fst) fun p16 =>
        .guard (((0 : Int) ≤ y11.fst) ∧ ((y11.fst : Int) < (↑s15.snd.fst : Int))) <|
        .load (p16.fst, p16.snd + mulN (Int.toNat y11.fst) 2 + 1) (.int .i64) fun i17 =>
        .nonnil (r0.fst) fun p18 =>
        .load (p18.fst, p18.snd + 2) (.sl) fun s19 =>
        .nonnil (s19.fst) fun p20 =>
        .guard (((0 : Int) ≤ y11.fst) ∧ ((y11.fst : Int) < (↑s19.snd.fst : Int))) <|
        .load (p20.fst, p20.snd + mulN (Int.toNat y11.fst) 2) (.int .i64) fun i21 =>
        .callv (a3) [.c (.int .i64 (i17)), .c (.int .i64 (i21))] false [.c (.bool)] fun r22 =>
        .ite (!r22.fst)
        (.done .ret [.c (.ff)])
        (.call fn_ni_leaf [.c (.ptr (r0.fst))] false [.c (.bool)] fun r23 =>
          .bind none (.ite (!r23.fst)
            (.nonnil (r0.fst) fun p24 =>
              .load (p24.fst, p24.snd + 3) (.ptr) fun q25 =>
              .nonnil (q25) fun p26 =>
              .load p26 (.sl) fun s27 =>
              .guard (InK IntKind.i64 (y11.fst + 1)) <|
              .nonnil (s27.fst) fun p28 =>
              .guard (((0 : Int) ≤ y11.fst + 1) ∧ ((y11.fst + 1 : Int) < (↑s27.snd.fst : Int))) <|
              .call fn_mi_nodeScan [.c (.addr a0), .c (.addr (p28.fst, p28.snd + (y11.fst + 1).toNat)), .c (.raw (a3)), .c (.bool (a4))] false [.c (.bool)] fun r29 =>
              .ite (!r29.fst)
              (.done .ret [.c (.ff)])
              (.done .normal []))
            (.done .normal [])) [] fun x30 =>
          .guard (InK IntKind.i64 (y11.fst + 1)) <|
          .done .normal [.c (.int .i64 (y11.fst + 1))]))
      (.done (.exit 0) [])) [] fun x31 =>
  .done .ret [.c (.tt)]

theorem den_mi_nodeAscend (a0 : PA) (a1 : PA) (a2 : Int) (a3 : Value) (a4 : Bool) : denFn Try.prog Try.f126 [.c (.addr a0), .c (.addr a1), .c (.int .i64 a2), .c (.raw a3), .c (.bool a4)] = M_mi_nodeAscend a0 a1 a2 a3 a4 := by kernel_rfl
theorem hc_mi_nodeAscend (a0 : PA) (a1 : PA) (a2 : Int) (a3 : Value) (a4 : Bool) {h : H} {R : Value → H → Prop} (hw : wp Try.prog (M_mi_nodeAscend a0 a1 a2 a3 a4) (Ret R) h) : HC Try.prog fn_mi_nodeAscend (List.map AV.val [.c (.addr a0), .c (.addr a1), .c (.int .i64 a2), .c (.raw a3), .c (.bool a4)]).toArray h R :=
  den_calls hmix Try.func126 (of_decide_eq_true rfl) (by rw [den_mi_nodeAscend]; exact hw)

def M_mi_nodeKeyValues (a0 : PA) (a1 : PA) (a2p : Option PA) (a2l : Nat) (a2c : Nat) (a3p : Option PA) (a3l : Nat) (a3c : Nat) (a4 : Bool) : M :=
  .call fn_mi_isoLoad [.c (.addr a0), .c (.addr a1), .c (.bool (a4))] false [.c (.ptr)] fun r0 =>
  .call fn_ni_leaf [.c (.ptr (r0.fst))] false [.c (.bool)] fun r1 =>
  .ite (r1.fst)
  (.bind (some 0) (.loop [.c (.int .i64), .c (.sl), .c (.sl)] [.c (.int .i64 (0)), .c (.sl (a3p) (a3l) (a3c)), .c (.sl (a2p) (a2l) (a2c))] fun y2 =>
        .nonnil (r0.fst) fun p3 =>
        .load (p3.fst, p3.snd + 2) (.sl) fun s4 =>
        .ite (decide (y2.fst < (↑s4.snd.fst : Int)))
        (.nonnil (r0.fst) fun p5 =>
          .load (p5.fst, p5.snd + 2) (.sl) fun s6 =>
          .nonnil (s6.fst) fun p7 =>
          .guard (((0 : Int) ≤ y2.fst) ∧ ((y2.fst : Int) < (↑s6.snd.fst : Int))) <|
          .load (p7.fst, p7.snd + mulN (Int.toNat y2.fst) 2 + 1) (.int .i64) fun i8 =>
          .alloc ty_int [.int .i64 (i8)] fun n9 =>
          .append ty_int 1 8 [.int .i64 (0)] ((y2.snd.snd.fst.fst), y2.snd.snd.fst.snd.fst, y2.snd.snd.fst.snd.snd) ((some (n9, 0)), 1, 1) fun s10 =>
          .nonnil (r0.fst) fun p11 =>
          .load (p11.fst, p11.snd + 2) (.sl) fun s12 =>
          .nonnil (s12.fst) fun p13 =>
          .guard (((0 : Int) ≤ y2.fst) ∧ ((y2.fst : Int) < (↑s12.snd.fst : Int))) <|
          .load (p13.fst, p13.snd + mulN (Int.toNat y2.fst) 2) (.int .i64) fun i14 =>
          .alloc ty_int [.int .i64 (i14)] fun n15 =>
          .append ty_int 1 8 [.int .i64 (0)] ((y2.snd.fst.fst), y2.snd.fst.snd.fst, y2.snd.fst.snd.snd) ((some (n15, 0)), 1, 1) fun s16 =>
          .guard (InK IntKind.i64 (y2.fst + 1)) <|
          .done .normal [.c (.int .i64 (y2.fst + 1)), .c (.sl (s16.fst) (s16.snd.fst) (s16.snd.snd)), .c (.sl (s10.fst) (s10.snd.fst) (s10.snd.snd))])
        (.done (.exit 0) [.c (.sl (y2.snd.fst.fst) (y2.snd.fst.snd.fst) (y2.snd.fst.snd.snd)), .c (.sl (y2.snd.snd.fst.fst) (y2.snd.snd.fst.snd.fst) (y2.snd.snd.fst.snd.snd))])) [.c (.sl), .c (.sl)] fun x17 =>
    .done .ret [.c (.sl (x17.snd.fst.fst) (x17.snd.fst.snd.fst) (x17.snd.fst.snd.snd)), .c (.sl (x17.fst.fst) (x17.fst.snd.fst) (x17.fst.snd.snd))])
  (.bind (some 2) (.loop [.c (.int .i64), .c (.sl), .c (.sl)] [.c (.int .i64 (0)), .c (.sl (a3p) (a3l) (a3c)), .c (.sl (a2p) (a2l) (a2c))] fun y18 =>
        .nonnil (r0.fst) fun p19 =>
        .load (p19.fst, p19.snd + 2) (.sl) fun s20 =>
        .ite (decide (y18.fst < (↑s20.snd.fst : Int)))
        (.nonnil (r0.fst) fun p21 =>
          .load (p21.fst, p21.snd + 3) (.ptr) fun q22 =>
          .nonnil (q22) fun p23 =>
          .load p23 (.sl) fun s24 =>
          .nonnil (s24.fst) fun p25 =>
          .guard (((0 : Int) ≤ y18.fst) ∧ ((y18.fst : Int) < (↑s24.snd.fst : Int))) <|
          .call fn_mi_nodeKeyValues [.c (.addr a0), .c (.addr (p25.fst, p25.snd + Int.toNat y18.fst)), .c (.sl (y18.snd.snd.fst.fst) (y18.snd.snd.fst.snd.fst) (y18.snd.snd.fst.snd.snd)), .c (.sl (y18.snd.fst.fst) (y18.snd.fst.snd.fst) (y18.snd.fst.snd.snd)), .c (.bool (a4))] true [.c (.sl), .c (.sl)] fun r26 =>
          .nonnil (r0.fst) fun p27 =>
          .load (p27.fst, p27.snd + 2) (.sl) fun s28 =>
          .nonnil (s28.fst) fun p29 =>
          .guard (((0 : Int) ≤ y18.fst) ∧ ((y18.fst : Int) < (↑s28.snd.fst : Int))) <|
          .load (p29.fst, p29.snd + mulN (Int.toNat y18.fst) 2 + 1) (.int .i64) fun i30 =>
          .alloc ty_int [.int .i64 (i30)] fun n31 =>
          .append ty_int 1 8 [.int .i64 (0)] ((r26.fst.fst), r26.fst.snd.fst, r26.fst.snd.snd) ((some (n31, 0)), 1, 1) fun s32 =>
          .nonnil (r0.fst) fun p33 =>
          .load (p33.fst, p33.snd + 2) (.sl) fun s34 =>
          .nonnil (s34.fst) fun p35 =>
          .guard (((0 : Int) ≤ y18.fst) ∧ ((y18.fst : Int) < (↑s34.snd.fst : Int))) <|
          .load (p35.fst, p35.snd + mulN (Int.toNat y18.fst) 2) (.int .i64) fun i36 =>
          .alloc ty_int [.int .i64 (i36)] fun n37 =>
          .append ty_int 1 8 [.int .i64 (0)] ((r26.snd.fst.fst), r26.snd.fst.snd.fst, r26.snd.fst.snd.snd) ((some (n37, 0)), 1, 1) fun s38 =>
          .guard (InK IntKind.i64 (y18.fst + 1)) <|
          .done .normal [.c (.int .i64 (y18.fst + 1)), .c (.sl (s38.fst) (s38.snd.fst) (s38.snd.snd)), .c (.sl (s32.fst) (s32.snd.fst) (s32.snd.snd))])
        (.done (.exit 2) [.c (.sl (y18.snd.fst.fst) (y18.snd.fst.snd.fst) (y18.snd.fst.snd.snd)), .c (.sl (y18.snd.snd.fst.fst) (y18.snd.snd.fst.snd.fst) (y18.snd.snd.fst.snd.snd))])) [.c (.sl), .c (.sl)] fun x39 =>
    .nonnil (r0.fst) fun p40 =>
    .load (p40.fst, p40.snd + 3) (.ptr) fun q41 =>
    .nonnil (q41) fun p42 =>
    .load p42 (.sl) fun s43 =>
    .nonnil (r0.fst) fun p44 =>
    .load (p44.fst, p44.snd + 3) (.ptr) fun q45 =>
    .nonnil (q45) fun p46 =>
    .load p46 (.sl) fun s47 =>
    .guard (InK IntKind.i64 ((↑s47.snd.fst : Int) - 1)) <|
    .nonnil (s43.fst) fun p48 =>
    .guard (((0 : Int) ≤ (↑s47.snd.fst : Int) - 1) ∧ (((↑s47.snd.fst : Int) - 1 : Int) < (↑s43.snd.fst : Int))) <|
    .call fn_mi_nodeKeyValues [.c (.addr a0), .c (.addr (p48.fst, p48.snd + ((↑s47.snd.fst : Int) - 1).toNat)), .c (.sl (x39.snd.fst.fst) (x39.snd.fst.snd.fst) (x39.snd.fst.snd.snd)), .c (.sl (x39.fst.fst) (x39.fst.snd.fst) (x39.fst.snd.snd)), .c (.bool (a4))] true [.c (.sl), .c (.sl)] fun r49 =>
    .done .ret [.c (.sl (r49.fst.fst) (r49.fst.snd.fst) (r49.fst.snd.snd)), .c (.sl (r49.snd.fst.fst) (r49.snd.fst.snd.fst) (r49.snd.fst.snd.snd))])

theorem den_mi_nodeKeyValues (a0 : PA) (a1 : PA) (a2p : Option PA) (a2l : Nat) (a2c : Nat) (a3p : Option PA) (a3l : Nat) (a3c : Nat) (a4 : Bool) : denFn Try.prog Try.f119 [.c (.addr a0), .c (.addr a1), .c (.sl a2p a2l a2c), .c (.sl a3p a3l a3c), .c (.bool a4)] = M_mi_nodeKeyValues a0 a1 a2p a2l a2c a3p a3l a3c a4 := by kernel_rfl
theorem hc_mi_nodeKeyValues (a0 : PA) (a1 : PA) (a2p : Option PA) (a2l : Nat) (a2c : Nat) (a3p : Option PA) (a3l : Nat) (a3c : Nat) (a4 : Bool) {h : H} {R : Value → H → Prop} (hw : wp Try.prog (M_mi_nodeKeyValues a0 a1 a2p a2l a2c a3p a3l a3c a4) (Ret R) h) : HC Try.prog fn_mi_nodeKeyValues (List.map AV.val [.c (.addr a0), .c (.addr a1), .c (.sl a2p a2l a2c), .c (.sl a3p a3l a3c), .c (.bool a4)]).toArray h R :=
  den_calls hmix Try.func119 (of_decide_eq_true rfl) (by rw [den_mi_nodeKeyValues]; exact hw)

def M_mi_nodeRebalance (a0 : PA) (a1 : PA) (a2 : Int) : M :=
  .load (a1.fst, a1.snd + 2) (.sl) fun s0 =>
  .bind none (.ite (a2 == (↑s0.snd.fst : Int))
    (.guard (InK IntKind.i64 (a2 - 1)) <|
      .done .normal [.c (.int .i64 (a2 - 1))])
    (.done .normal [.c (.int .i64 (a2))])) [.c (.int .i64)] fun x1 =>
  .load (a1.fst, a1.snd + 3) (.ptr) fun q2 =>
  .nonnil (q2) fun p3 =>
  .load p3 (.sl) fun s4 =>
  .nonnil (s4.fst) fun p5 =>
  .guard (((0 : Int) ≤ x1.fst) ∧ ((x1.fst : Int) < (↑s4.snd.fst : Int))) <|
  .call fn_mi_isoLoad [.c (.addr a0), .c (.addr (p5.fst, p5.snd + Int.toNat x1.fst)), .c (.tt)] false [.c (.ptr)] fun r6 =>
  .load (a1.fst, a1.snd + 3) (.ptr) fun q7 =>
  .nonnil (q7) fun p8 =>
  .load p8 (.sl) fun s9 =>
  .guard (InK IntKind.i64 (x1.fst + 1)) <|
  .nonnil (s9.fst) fun p10 =>
  .guard (((0 : Int) ≤ x1.fst + 1) ∧ ((x1.fst + 1 : Int) < (↑s9.snd.fst : Int))) <|
  .call fn_mi_isoLoad [.c (.addr a0), .c (.addr (p10.fst, p10.snd + (x1.fst + 1).toNat)), .c (.tt)] false [.c (.ptr)] fun r11 =>
  .nonnil (r6.fst) fun p12 =>
  .load (p12.fst, p12.snd + 2) (.sl) fun s13 =>
  .nonnil (r11.fst) fun p14 =>
  .load (p14.fst, p14.snd + 2) (.sl) fun s15 =>
  .guard (InK IntKind.i64 ((↑s13.snd.fst : Int) + (↑s15.snd.fst : Int))) <|
  .load (a0.fst, a0.snd + 7) (.int .i64) fun i16 =>
  .bind none (.ite (decide ((↑s13.snd.fst : Int) + (↑s15.snd.fst : Int) < i16))
    (.nonnil (r6.fst) fun p17 =>
      .load (p17.fst, p17.snd + 2) (.sl) fun s18 =>
      .load (a1.fst, a1.snd + 2) (.sl) fun s19 =>
      .nonnil (s19.fst) fun p20 =>
      .guard (((0 : Int) ≤ x1.fst) ∧ ((x1.fst : Int) < (↑s19.snd.fst : Int))) <|
      .load (p20.fst, p20.snd + mulN (Int.toNat x1.fst) 2) (.int .i64) fun i21 =>
      .load (p20.fst, p20.snd + mulN (Int.toNat x1.fst) 2 + 1) (.int .i64) fun i22 =>
      .alloc ty_btree_mapPair_int_int [.int .i64 (i21), .int .i64 (i22)] fun n23 =>
      .held (p17.fst, p17.snd + 2) (.sl (s18.fst) (s18.snd.fst) (s18.snd.snd)) <|
      .append ty_btree_mapPair_int_int 2 16 [.int .i64 (0), .int .i64 (0)] ((s18.fst), s18.snd.fst, s18.snd.snd) ((some (n23, 0)), 1, 1) fun s24 =>
      .nonnil (r6.fst) fun p25 =>
      .store (p25.fst, p25.snd + 2) (.sl (s24.fst) (s24.snd.fst) (s24.snd.snd)) <|
      .nonnil (r6.fst) fun p26 =>
      .load (p26.fst, p26.snd + 2) (.sl) fun s27 =>
      .nonnil (r11.fst) fun p28 =>
      .load (p28.fst, p28.snd + 2) (.sl) fun s29 =>
      .append ty_btree_mapPair_int_int 2 16 [.int .i64 (0), .int .i64 (0)] ((s27.fst), s27.snd.fst, s27.snd.snd) ((s29.fst), s29.snd.fst, s29.snd.snd) fun s30 =>
      .nonnil (r6.fst) fun p31 =>
      .store (p31.fst, p31.snd + 2) (.sl (s30.fst) (s30.snd.fst) (s30.snd.snd)) <|
      .call fn_ni_leaf [.c (.ptr (r6.fst))] false [.c (.bool)] fun r32 =>
      .bind none (.ite (!r32.fst)
        (.nonnil (r6.fst) fun p33 =>
          .load (p33.fst, p33.snd + 3) (.ptr) fun q34 =>
          .nonnil (r6.fst) fun p35 =>
          .load (p35.fst, p35.snd + 3) (.ptr) fun q36 =>
          .nonnil (q36) fun p37 =>
          .load p37 (.sl) fun s38 =>
          .nonnil (r11.fst) fun p39 =>
          .load (p39.fst, p39.snd + 3) (.ptr) fun q40 =>
          .nonnil (q40) fun p41 =>
          .load p41 (.sl) fun s42 =>
          .append ty_p_btree_mapNode_int_int 1 8 [.ptr none] ((s38.fst), s38.snd.fst, s38.snd.snd) ((s42.fst), s42.snd.fst, s42.snd.snd) fun s43 =>
          .held (p33.fst, p33.snd + 3) (.ptr (q34)) <|
          .nonnil (q34) fun p44 =>
          .store p44 (.sl (s43.fst) (s43.snd.fst) (s43.snd.snd)) <|
          .done .normal [])
        (.done .normal [])) [] fun x45 =>
      .nonnil (r6.fst) fun p46 =>
      .load (p46.fst, p46.snd + 1) (.int .i64) fun i47 =>
      .nonnil (r11.fst) fun p48 =>
      .load (p48.fst, p48.snd + 1) (.int .i64) fun i49 =>
      .guard (InK IntKind.i64 (i49 + 1)) <|
      .guard (InK IntKind.i64 (i47 + (i49 + 1))) <|
      .nonnil (r6.fst) fun p50 =>
      .store (p50.fst, p50.snd + 1) (.int .i64 (i47 + (i49 + 1))) <|
      .load (a1.fst, a1.snd + 2) (.sl) fun s51 =>
      .guard (((0 : Int) ≤ x1.fst) ∧ ((x1.fst : Int) ≤ (↑s51.snd.fst : Int))) <|
      .load (a1.fst, a1.snd + 2) (.sl) fun s52 =>
      .guard (InK IntKind.i64 (x1.fst + 1)) <|
      .guard (((0 : Int) ≤ x1.fst + 1) ∧ ((x1.fst + 1 : Int) ≤ (↑s52.snd.fst : Int))) <|
      .copy 2 ((slBase s51.fst s51.snd.snd (Int.toNat x1.fst) 2), s51.snd.fst - Int.toNat x1.fst, s51.snd.snd - Int.toNat x1.fst) ((slBase s52.fst s52.snd.snd (x1.fst + 1).toNat 2), s52.snd.fst - (x1.fst + 1).toNat, s52.snd.snd - (x1.fst + 1).toNat) fun m53 =>
      .load (a1.fst, a1.snd + 2) (.sl) fun s54 =>
      .load (a1.fst, a1.snd + 2) (.sl) fun s55 =>
      .guard (InK IntKind.i64 ((↑s55.snd.fst : Int) - 1)) <|
      .load (a0.fst, a0.snd + 4) (.int .i64) fun i56 =>
      .load (a0.fst, a0.snd + 5) (.int .i64) fun i57 =>
      .nonnil (s54.fst) fun p58 =>
      .guard (((0 : Int) ≤ (↑s55.snd.fst : Int) - 1) ∧ (((↑s55.snd.fst : Int) - 1 : Int) < (↑s54.snd.fst : Int))) <|
      .store (p58.fst, p58.snd + mulN ((↑s55.snd.fst : Int) - 1).toNat 2) (.int .i64 (i56)) <|
      .store (p58.fst, p58.snd + mulN ((↑s55.snd.fst : Int) - 1).toNat 2 + 1) (.int .i64 (i57)) <|
      .load (a1.fst, a1.snd + 2) (.sl) fun s59 =>
      .load (a1.fst, a1.snd + 2) (.sl) fun s60 =>
      .guard (InK IntKind.i64 ((↑s60.snd.fst : Int) - 1)) <|
      .guard (((0 : Int) ≤ (↑s60.snd.fst : Int) - 1) ∧ (((↑s60.snd.fst : Int) - 1 : Int) ≤ (↑s59.snd.snd : Int))) <|
      .store (a1.fst, a1.snd + 2) (.sl (slBase s59.fst s59.snd.snd 0 2) (((↑s60.snd.fst : Int) - 1).toNat - 0) (s59.snd.snd - 0)) <|
      .load (a1.fst, a1.snd + 3) (.ptr) fun q61 =>
      .nonnil (q61) fun p62 =>
      .load p62 (.sl) fun s63 =>
      .guard (InK IntKind.i64 (x1.fst + 1)) <|
      .guard (((0 : Int) ≤ x1.fst + 1) ∧ ((x1.fst + 1 : Int) ≤ (↑s63.snd.fst : Int))) <|
      .load (a1.fst, a1.snd + 3) (.ptr) fun q64 =>
      .nonnil (q64) fun p65 =>
      .load p65 (.sl) fun s66 =>
      .guard (InK IntKind.i64 (x1.fst + 2)) <|
      .guard (((0 : Int) ≤ x1.fst + 2) ∧ ((x1.fst + 2 : Int) ≤ (↑s66.snd.fst : Int))) <|
      .copy 1 ((slBase s63.fst s63.snd.snd (x1.fst + 1).toNat 1), s63.snd.fst - (x1.fst + 1).toNat, s63.snd.snd - (x1.fst + 1).toNat) ((slBase s66.fst s66.snd.snd (x1.fst + 2).toNat 1), s66.snd.fst - (x1.fst + 2).toNat, s66.snd.snd - (x1.fst + 2).toNat) fun m67 =>
      .load (a1.fst, a1.snd + 3) (.ptr) fun q68 =>
      .nonnil (q68) fun p69 =>
      .load p69 (.sl) fun s70 =>
      .load (a1.fst, a1.snd + 3) (.ptr) fun q71 =>
      .nonnil (q71) fun p72 =>
      .load p72 (.sl) fun s73 =>
      .guard (InK IntKind.i64 ((↑s73.snd.fst : Int) - 1)) <|
      .nonnil (s70.fst) fun p74 =>
      .guard (((0 : Int) ≤ (↑s73.snd.fst : Int) - 1) ∧ (((↑s73.snd.fst : Int) - 1 : Int) < (↑s70.snd.fst : Int))) <|
      .store (p74.fst, p74.snd + ((↑s73.snd.fst : Int) - 1).toNat) (.ptr none) <|
      .load (a1.fst, a1.snd + 3) (.ptr) fun q75 =>
      .load (a1.fst, a1.snd + 3) (.ptr) fun q76 =>
      .nonnil (q76) fun p77 =>
      .load p77 (.sl) fun s78 =>
      .load (a1.fst, a1.snd + 3) (.ptr) fun q79 =>
      .nonnil (q79) fun p80 =>
      .load p80 (.sl) fun s81 =>
      .guard (InK IntKind.i64 ((↑s81.snd.fst : Int) - 1)) <|
      .guard (((0 : Int) ≤ (↑s81.snd.fst : Int) - 1) ∧ (((↑s81.snd.fst : Int) - 1 : Int) ≤ (↑s78.snd.snd : Int))) <|
      .nonnil (q75) fun p82 =>
      .store p82 (.sl (slBase s78.fst s78.snd.snd 0 1) (((↑s81.snd.fst : Int) - 1).toNat - 0) (s78.snd.snd - 0)) <|
      .done .normal [])
    (.nonnil (r6.fst) fun p83 =>
      .load (p83.fst, p83.snd + 2) (.sl) fun s84 =>
      .nonnil (r11.fst) fun p85 =>
      .load (p85.fst, p85.snd + 2) (.sl) fun s86 =>
      .bind none (.ite (decide ((↑s84.snd.fst : Int) > (↑s86.snd.fst : Int)))
        (.nonnil (r11.fst) fun p87 =>
          .load (p87.fst, p87.snd + 2) (.sl) fun s88 =>
          .load (a0.fst, a0.snd + 4) (.int .i64) fun i89 =>
          .load (a0.fst, a0.snd + 5) (.int .i64) fun i90 =>
          .alloc ty_btree_mapPair_int_int [.int .i64 (i89), .int .i64 (i90)] fun n91 =>
          .held (p87.fst, p87.snd + 2) (.sl (s88.fst) (s88.snd.fst) (s88.snd.snd)) <|
          .append ty_btree_mapPair_int_int 2 16 [.int .i64 (0), .int .i64 (0)] ((s88.fst), s88.snd.fst, s88.snd.snd) ((some (n91, 0)), 1, 1) fun s92 =>
          .nonnil (r11.fst) fun p93 =>
          .store (p93.fst, p93.snd + 2) (.sl (s92.fst) (s92.snd.fst) (s92.snd.snd)) <|
          .nonnil (r11.fst) fun p94 =>
          .load (p94.fst, p94.snd + 2) (.sl) fun s95 =>
          .guard (((0 : Int) ≤ 1) ∧ ((1 : Int) ≤ (↑s95.snd.fst : Int))) <|
          .nonnil (r11.fst) fun p96 =>
          .load (p96.fst, p96.snd + 2) (.sl) fun s97 =>
          .copy 2 ((slBase s95.fst s95.snd.snd 1 2), s95.snd.fst - 1, s95.snd.snd - 1) ((s97.fst), s97.snd.fst, s97.snd.snd) fun m98 =>
          .nonnil (r11.fst) fun p99 =>
          .load (p99.fst, p99.snd + 2) (.sl) fun s100 =>
          .load (a1.fst, a1.snd + 2) (.sl) fun s101 =>
          .nonnil (s101.fst) fun p102 =>
          .guard (((0 : Int) ≤ x1.fst) ∧ ((x1.fst : Int) < (↑s101.snd.fst : Int))) <|
          .load (p102.fst, p102.snd + mulN (Int.toNat x1.fst) 2) (.int .i64) fun i103 =>
          .load (p102.fst, p102.snd + mulN (Int.toNat x1.fst) 2 + 1) (.int .i64) fun i104 =>
          .nonnil (s100.fst) fun p105 =>
          .guard (((0 : Int) ≤ 0) ∧ ((0 : Int) < (↑s100.snd.fst : Int))) <|
          .store (p105.fst, p105.snd) (.int .i64 (i103)) <|
          .store (p105.fst, p105.snd + 1) (.int .i64 (i104)) <|
          .nonnil (r11.fst) fun p106 =>
          .load (p106.fst, p106.snd + 1) (.int .i64) fun i107 =>
          .guard (InK IntKind.i64 (i107 + 1)) <|
          .nonnil (r11.fst) fun p108 =>
          .store (p108.fst, p108.snd + 1) (.int .i64 (i107 + 1)) <|
          .load (a1.fst, a1.snd + 2) (.sl) fun s109 =>
          .nonnil (r6.fst) fun p110 =>
          .load (p110.fst, p110.snd + 2) (.sl) fun s111 =>
          .nonnil (r6.fst) fun p112 =>
          .load (p112.fst, p112.snd + 2) (.sl) fun s113 =>
          .guard (InK IntKind.i64 ((↑s113.snd.fst : Int) - 1)) <|
          .nonnil (s111.fst) fun p114 =>
          .guard (((0 : Int) ≤ (↑s113.snd.fst : Int) - 1) ∧ (((↑s113.snd.fst : Int) - 1 : Int) < (↑s111.snd.fst : Int))) <|
          .load (p114.fst, p114.snd + mulN ((↑s113.snd.fst : Int) - 1).toNat 2) (.int .i64) fun i115 =>
          .load (p114.fst, p114.snd + mulN ((↑s113.snd.fst : Int) - 1).toNat 2 + 1) (.int .i64) fun i116 =>
          .nonnil (s109.fst) fun p117 =>
          .guard (((0 : Int) ≤ x1.fst) ∧ ((x1.fst : Int) < (↑s109.snd.fst : Int))) <|
          .store (p117.fst, p117.snd + mulN (Int.toNat x1.fst) 2) (.int .i64 (i115)) <|
          .store (p117.fst, p117.snd + mulN (Int.toNat x1.fst) 2 + 1) (.int .i64 (i116)) <|
          .nonnil (r6.fst) fun p118 =>
          .load (p118.fst, p118.snd + 2) (.sl) fun s119 =>
          .nonnil (r6.fst) fun p120 =>
          .load (p120.fst, p120.snd + 2) (.sl) fun s121 =>
          .guard (InK IntKind.i64 ((↑s121.snd.fst : Int) - 1)) <|
          .load (a0.fst, a0.snd + 4) (.int .i64) fun i122 =>
          .load (a0.fst, a0.snd + 5) (.int .i64) fun i123 =>
          .nonnil (s119.fst) fun p124 =>
          .guard (((0 : Int) ≤ (↑s121.snd.fst : Int) - 1) ∧ (((↑s121.snd.fst : Int) - 1 : Int) < (↑s119.snd.fst : Int))) <|
          .store (p124.fst, p124.snd + mulN ((↑s121.snd.fst : Int) - 1).toNat 2) (.int .i64 (i122)) <|
          .store (p124.fst, p124.snd + mulN ((↑s121.snd.fst : Int) - 1).toNat 2 + 1) (.int .i64 (i123)) <|
          .nonnil (r6.fst) fun p125 =>
          .load (p125.fst, p125.snd + 2) (.sl) fun s126 =>
          .nonnil (r6.fst) fun p127 =>
          .load (p127.fst, p127.snd + 2) (.sl) fun s128 =>
          .guard (InK IntKind.i64 ((↑s128.snd.fst : Int) - 1)) <|
          .guard (((0 : Int) ≤ (↑s128.snd.fst : Int) - 1) ∧ (((↑s128.snd.fst : Int) - 1 : Int) ≤ (↑s126.snd.snd : Int))) <|
          .nonnil (r6.fst) fun p129 =>
          .store (p129.fst, p129.snd + 2) (.sl (slBase s126.fst s126.snd.snd 0 2) (((↑s128.snd.fst : Int) - 1).toNat - 0) (s126.snd.snd - 0)) <|
          .nonnil (r6.fst) fun p130 =>
          .load (p130.fst, p130.snd + 1) (.int .i64) fun i131 =>
          .guard (InK IntKind.i64 (i131 - 1)) <|
          .nonnil (r6.fst) fun p132 =>
          .store (p132.fst, p132.snd + 1) (.int .i64 (i131 - 1)) <|
          .call fn_ni_leaf [.c (.ptr (r6.fst))] false [.c (.bool)] fun r133 =>
          .bind none (.ite (!r133.fst)
            (.nonnil (r11.fst) fun p134 =>
              .load (p134.fst, p134.snd + 3) (.ptr) fun q135 =>
              .nonnil (r11.fst) fun p136 =>
              .load (p136.fst, p136.snd + 3) (.ptr) fun q137 =>
              .nonnil (q137) fun p138 =>
              .load p138 (.sl) fun s139 =>
              .alloc ty_p_btree_mapNode_int_int [.ptr none] fun n140 =>
              .held p138 (.sl (s139.fst) (s139.snd.fst) (s139.snd.snd)) <|
              .held (p136.fst, p136.snd + 3) (.ptr (q137)) <|
              .held (p134.fst, p134.snd + 3) (.ptr (q135)) <|
              .append ty_p_btree_mapNode_int_int 1 8 [.ptr none] ((s139.fst), s139.snd.fst, s139.snd.snd) ((some (n140, 0)), 1, 1) fun s141 =>
              .held (p134.fst, p134.snd + 3) (.ptr (q135)) <|
              .nonnil (q135) fun p142 =>
              .store p142 (.sl (s141.fst) (s141.snd.fst) (s141.snd.snd)) <|
              .nonnil (r11.fst) fun p143 =>
              .load (p143.fst, p143.snd + 3) (.ptr) fun q144 =>
              .nonnil (q144) fun p145 =>
              .load p145 (.sl) fun s146 =>
              .guard (((0 : Int) ≤ 1) ∧ ((1 : Int) ≤ (↑s146.snd.fst : Int))) <|
              .nonnil (r11.fst) fun p147 =>
              .load (p147.fst, p147.snd + 3) (.ptr) fun q148 =>
              .nonnil (q148) fun p149 =>
              .load p149 (.sl) fun s150 =>
              .copy 1 ((slBase s146.fst s146.snd.snd 1 1), s146.snd.fst - 1, s146.snd.snd - 1) ((s150.fst), s150.snd.fst, s150.snd.snd) fun m151 =>
              .nonnil (r11.fst) fun p152 =>
              .load (p152.fst, p152.snd + 3) (.ptr) fun q153 =>
              .nonnil (q153) fun p154 =>
              .load p154 (.sl) fun s155 =>
              .nonnil (r6.fst) fun p156 =>
              .load (p156.fst, p156.snd + 3) (.ptr) fun q157 =>
              .nonnil (q157) fun p158 =>
              .load p158 (.sl) fun s159 =>
              .nonnil (r6.fst) fun p160 =>
              .load (p160.fst, p160.snd + 3) (.ptr) fun q161 =>
              .nonnil (q161) fun p162 =>
              .load p162 (.sl) fun s163 =>
              .guard (InK IntKind.i64 ((↑s163.snd.fst : Int) - 1)) <|
              .nonnil (s159.fst) fun p164 =>
              .guard (((0 : Int) ≤ (↑s163.snd.fst : Int) - 1) ∧ (((↑s163.snd.fst : Int) - 1 : Int) < (↑s159.snd.fst : Int))) <|
              .load (p164.fst, p164.snd + ((↑s163.snd.fst : Int) - 1).toNat) (.ptr) fun q165 =>
              .nonnil (s155.fst) fun p166 =>
              .guard (((0 : Int) ≤ 0) ∧ ((0 : Int) < (↑s155.snd.fst : Int))) <|
              .store (p166.fst, p166.snd) (.ptr (q165)) <|
              .nonnil (r6.fst) fun p167 =>
              .load (p167.fst, p167.snd + 3) (.ptr) fun q168 =>
              .nonnil (q168) fun p169 =>
              .load p169 (.sl) fun s170 =>
              .nonnil (r6.fst) fun p171 =>
              .load (p171.fst, p171.snd + 3) (.ptr) fun q172 =>
              .nonnil (q172) fun p173 =>
              .load p173 (.sl) fun s174 =>
              .guard (InK IntKind.i64 ((↑s174.snd.fst : Int) - 1)) <|
              .nonnil (s170.fst) fun p175 =>
              .guard (((0 : Int) ≤ (↑s174.snd.fst : Int) - 1) ∧ (((↑s174.snd.fst : Int) - 1 : Int) < (↑s170.snd.fst : Int))) <|
              .store (p175.fst, p175.snd + ((↑s174.snd.fst : Int) - 1).toNat) (.ptr none) <|
              .nonnil (r6.fst) fun p176 =>
              .load (p176.fst, p176.snd + 3) (.ptr) fun q177 =>
              .nonnil (r6.fst) fun p178 =>
              .load (p178.fst, p178.snd + 3) (.ptr) fun q179 =>
              .nonnil (q179) fun p180 =>
              .load p180 (.sl) fun s181 =>
              .nonnil (r6.fst) fun p182 =>
              .load (p182.fst, p182.snd + 3) (.ptr) fun q183 =>
              .nonnil (q183) fun p184 =>
              .load p184 (.sl) fun s185 =>
              .guard (InK IntKind.i64 ((↑s185.snd.fst : Int) - 1)) <|
              .guard (((0 : Int) ≤ (↑s185.snd.fst : Int) - 1) ∧ (((↑s185.snd.fst : Int) - 1 : Int) ≤ (↑s181.snd.snd : Int))) <|
              .nonnil (q177) fun p186 =>
              .store p186 (.sl (slBase s181.fst s181.snd.snd 0 1) (((↑s185.snd.fst : Int) - 1).toNat - 0) (s181.snd.snd - 0)) <|
              .nonnil (r6.fst) fun p187 =>
              .load (p187.fst, p187.snd + 1) (.int .i64) fun i188 =>
              .nonnil (r11.fst) fun p189 =>
              .load (p189.fst, p189.snd + 3) (.ptr) fun q190 =>
              .nonnil (q190) fun p191 =>
              .load p191 (.sl) fun s192 =>
              .nonnil (s192.fst) fun p193 =>
              .guard (((0 : Int) ≤ 0) ∧ ((0 : Int) < (↑s192.snd.fst : Int))) <|
              .load (p193.fst, p193.snd) (.ptr) fun q194 =>
              .nonnil (q194) fun p195 =>
              .load (p195.fst, p195.snd + 1) (.int .i64) fun i196 =>
              .guard (InK IntKind.i64 (i188 - i196)) <|
              .nonnil (r6.fst) fun p197 =>
              .store (p197.fst, p197.snd + 1) (.int .i64 (i188 - i196)) <|
              .nonnil (r11.fst) fun p198 =>
              .load (p198.fst, p198.snd + 1) (.int .i64) fun i199 =>
              .nonnil (r11.fst) fun p200 =>
              .load (p200.fst, p200.snd + 3) (.ptr) fun q201 =>
              .nonnil (q201) fun p202 =>
              .load p202 (.sl) fun s203 =>
              .nonnil (s203.fst) fun p204 =>
              .guard (((0 : Int) ≤ 0) ∧ ((0 : Int) < (↑s203.snd.fst : Int))) <|
              .load (p204.fst, p204.snd) (.ptr) fun q205 =>
              .nonnil (q205) fun p206 =>
              .load (p206.fst, p206.snd + 1) (.int .i64) fun i207 =>
              .guard (InK IntKind.i64 (i199 + i207)) <|
              .nonnil (r11.fst) fun p208 =>
              .store (p208.fst, p208.snd + 1) (.int .i64 (i199 + i207)) <|
              .done .normal [])
            (.done .normal [])) [] fun x209 =>
          .done .normal [])
        (.nonnil (r6.fst) fun p210 =>
          .load (p210.fst, p210.snd + 2) (.sl) fun s211 =>
          .load (a1.fst, a1.snd + 2) (.sl) fun s212 =>
          .nonnil (s212.fst) fun p213 =>
          .guard (((0 : Int) ≤ x1.fst) ∧ ((x1.fst : Int) < (↑s212.snd.fst : Int))) <|
          .load (p213.fst, p213.snd + mulN (Int.toNat x1.fst) 2) (.int .i64) fun i214 =>
          .load (p213.fst, p213.snd + mulN (Int.toNat x1.fst) 2 + 1) (.int .i64) fun i215 =>
          .alloc ty_btree_mapPair_int_int [.int .i64 (i214), .int .i64 (i215)] fun n216 =>
          .held (p210.fst, p210.snd + 2) (.sl (s211.fst) (s211.snd.fst) (s211.snd.snd)) <|
          .append ty_btree_mapPair_int_int 2 16 [.int .i64 (0), .int .i64 (0)] ((s211.fst), s211.snd.fst, s211.snd.snd) ((some (n216, 0)), 1, 1) fun s217 =>
          .nonnil (r6.fst) fun p218 =>
          .store (p218.fst, p218.snd + 2) (.sl (s217.fst) (s217.snd.fst) (s217.snd.snd)) <|
          .nonnil (r6.fst) fun p219 =>
          .load (p219.fst, p219.snd + 1) (.int .i64) fun i220 =>
          .guard (InK IntKind.i64 (i220 + 1)) <|
          .nonnil (r6.fst) fun p221 =>
          .store (p221.fst, p221.snd + 1) (.int .i64 (i220 + 1)) <|
          .load (a1.fst, a1.snd + 2) (.sl) fun s222 =>
          .nonnil (r11.fst) fun p223 =>
          .load (p223.fst, p223.snd + 2) (.sl) fun s224 =>
          .nonnil (s224.fst) fun p225 =>
          .guard (((0 : Int) ≤ 0) ∧ ((0 : Int) < (↑s224.snd.fst : Int))) <|
          .load (p225.fst, p225.snd) (.int .i64) fun i226 =>
          .load (p225.fst, p225.snd + 1) (.int .i64) fun i227 =>
          .nonnil (s222.fst) fun p228 =>
          .guard (((0 : Int) ≤ x1.fst) ∧ ((x1.fst : Int) < (↑s222.snd.fst : Int))) <|
          .store (p228.fst, p228.snd + mulN (Int.toNat x1.fst) 2) (.int .i64 (i226)) <|
          .store (p228.fst, p228.snd + mulN (Int.toNat x1.fst) 2 + 1) (.int .i64 (i227)) <|
          .nonnil (r11.fst) fun p229 =>
          .load (p229.fst, p229.snd + 2) (.sl) fun s230 =>
          .nonnil (r11.fst) fun p231 =>
          .load (p231.fst, p231.snd + 2) (.sl) fun s232 =>
          .guard (((0 : Int) ≤ 1) ∧ ((1 : Int) ≤ (↑s232.snd.fst : Int))) <|
          .copy 2 ((s230.fst), s230.snd.fst, s230.snd.snd) ((slBase s232.fst s232.snd.snd 1 2), s232.snd.fst - 1, s232.snd.snd - 1) fun m233 =>
          .nonnil (r11.fst) fun p234 =>
          .load (p234.fst, p234.snd + 2) (.sl) fun s235 =>
          .nonnil (r11.fst) fun p236 =>
          .load (p236.fst, p236.snd + 2) (.sl) fun s237 =>
          .guard (InK IntKind.i64 ((↑s237.snd.fst : Int) - 1)) <|
          .load (a0.fst, a0.snd + 4) (.int .i64) fun i238 =>
          .load (a0.fst, a0.snd + 5) (.int .i64) fun i239 =>
          .nonnil (s235.fst) fun p240 =>
          .guard (((0 : Int) ≤ (↑s237.snd.fst : Int) - 1) ∧ (((↑s237.snd.fst : Int) - 1 : Int) < (↑s235.snd.fst : Int))) <|
          .store (p240.fst, p240.snd + mulN ((↑s237.snd.fst : Int) - 1).toNat 2) (.int .i64 (i238)) <|
          .store (p240.fst, p240.snd + mulN ((↑s237.snd.fst : Int) - 1).toNat 2 + 1) (.int .i64 (i239)) <|
          .nonnil (r11.fst) fun p241 =>
          .load (p241.fst, p241.snd + 2) (.sl) fun s242 =>
          .nonnil (r11.fst) fun p243 =>
          .load (p243.fst, p243.snd + 2) (.sl) fun s244 =>
          .guard (InK IntKind.i64 ((↑s244.snd.fst : Int) - 1)) <|
          .guard (((0 : Int) ≤ (↑s244.snd.fst : Int) - 1) ∧ (((↑s244.snd.fst : Int) - 1 : Int) ≤ (↑s242.snd.snd : Int))) <|
          .nonnil (r11.fst) fun p245 =>
          .store (p245.fst, p245.snd + 2) (.sl (slBase s242.fst s242.snd.snd 0 2) (((↑s244.snd.fst : Int) - 1).toNat - 0) (s242.snd.snd - 0)) <|
          .nonnil (r11.fst) fun p246 =>
          .load (p246.fst, p246.snd + 1) (.int .i64) fun i247 =>
          .guard (InK IntKind.i64 (i247 - 1)) <|
          .nonnil (r11.fst) fun p248 =>
          .store (p248.fst, p248.snd + 1) (.int .i64 (i247 - 1)) <|
          .call fn_ni_leaf [.c (.ptr (r6.fst))] false [.c (.bool)] fun r249 =>
          .bind none (.ite (!r249.fst)
            (.nonnil (r6.fst) fun p250 =>
              .load (p250.fst, p250.snd + 3) (.ptr) fun q251 =>
              .nonnil (r6.fst) fun p252 =>
              .load (p252.fst, p252.snd + 3) (.ptr) fun q253 =>
              .nonnil (q253) fun p254 =>
              .load p254 (.sl) fun s255 =>
              .nonnil (r11.fst) fun p256 =>
              .load (p256.fst, p256.snd + 3) (.ptr) fun q257 =>
              .nonnil (q257) fun p258 =>
              .load p258 (.sl) fun s259 =>
              .nonnil (s259.fst) fun p260 =>
              .guard (((0 : Int) ≤ 0) ∧ ((0 : Int) < (↑s259.snd.fst : Int))) <|
              .load (p260.fst, p260.snd) (.ptr) fun q261 =>
              .alloc ty_p_btree_mapNode_int_int [.ptr (q261)] fun n262 =>
              .held p254 (.sl (s255.fst) (s255.snd.fst) (s255.snd.snd)) <|
              .held (p252.fst, p252.snd + 3) (.ptr (q253)) <|
              .held (p250.fst, p250.snd + 3) (.ptr (q251)) <|
              .append ty_p_btree_mapNode_int_int 1 8 [.ptr none] ((s255.fst), s255.snd.fst, s255.snd.snd) ((some (n262, 0)), 1, 1) fun s263 =>
              .held (p250.fst, p250.snd + 3) (.ptr (q251)) <|
              .nonnil (q251) fun p264 =>
              .store p264 (.sl (s263.fst) (s263.snd.fst) (s263.snd.snd)) <|
              .nonnil (r11.fst) fun p265 =>
              .load (p265.fst, p265.snd + 3) (.ptr) fun q266 =>
              .nonnil (q266) fun p267 =>
              .load p267 (.sl) fun s268 =>
              .nonnil (r11.fst) fun p269 =>
              .load (p269.fst, p269.snd + 3) (.ptr) fun q270 =>
              .nonnil (q270) fun p271 =>
              .load p271 (.sl) fun s272 =>
              .guard (((0 : Int) ≤ 1) ∧ ((1 : Int) ≤ (↑s272.snd.fst : Int))) <|
              .copy 1 ((s268.fst), s268.snd.fst, s268.snd.snd) ((slBase s272.fst s272.snd.snd 1 1), s272.snd.fst - 1, s272.snd.snd - 1) fun m273 =>
              .nonnil (r11.fst) fun p274 =>
              .load (p274.fst, p274.snd + 3) (.ptr) fun q275 =>
              .nonnil (q275) fun p276 =>
              .load p276 (.sl) fun s277 =>
              .nonnil (r11.fst) fun p278 =>
              .load (p278.fst, p278.snd + 3) (.ptr) fun q279 =>
              .nonnil (q279) fun p280 =>
              .load p280 (.sl) fun s281 =>
              .guard (InK IntKind.i64 ((↑s281.snd.fst : Int) - 1)) <|
              .nonnil (s277.fst) fun p282 =>
              .guard (((0 : Int) ≤ (↑s281.snd.fst : Int) - 1) ∧ (((↑s281.snd.fst : Int) - 1 : Int) < (↑s277.snd.fst : Int))) <|
              .store (p282.fst, p282.snd + ((↑s281.snd.fst : Int) - 1).toNat) (.ptr none) <|
              .nonnil (r11.fst) fun p283 =>
              .load (p283.fst, p283.snd + 3) (.ptr) fun q284 =>
              .nonnil (r11.fst) fun p285 =>
              .load (p285.fst, p285.snd + 3) (.ptr) fun q286 =>
              .nonnil (q286) fun p287 =>
              .load p287 (.sl) fun s288 =>
              .nonnil (r11.fst) fun p289 =>
              .load (p289.fst, p289.snd + 3) (.ptr) fun q290 =>
              .nonnil (q290) fun p291 =>
              .load p291 (.sl) fun s292 =>
              .guard (InK IntKind.i64 ((↑s292.snd.fst : Int) - 1)) <|
              .guard (((0 : Int) ≤ (↑s292.snd.fst : Int) - 1) ∧ (((↑s292.snd.fst : Int) - 1 : Int) ≤ (↑s288.snd.snd : Int))) <|
              .nonnil (q284) fun p293 =>
              .store p293 (.sl (slBase s288.fst s288.snd.snd 0 1) (((↑s292.snd.fst : Int) - 1).toNat - 0) (s288.snd.snd - 0)) <|
              .nonnil (r6.fst) fun p294 =>
              .load (p294.fst, p294.snd + 1) (.int .i64) fun i295 =>
              .nonnil (r6.fst) fun p296 =>
              .load (p296.fst, p296.snd + 3) (.ptr) fun q297 =>
              .nonnil (q297) fun p298 =>
              .load p298 (.sl) fun s299 =>
              .nonnil (r6.fst) fun p300 =>
              .load (p300.fst, p300.snd + 3) (.ptr) fun q301 =>
              .nonnil (q301) fun p302 =>
              .load p302 (.sl) fun s303 =>
              .guard (InK IntKind.i64 ((↑s303.snd.fst : Int) - 1)) <|
              .nonnil (s299.fst) fun p304 =>
              .guard (((0 : Int) ≤ (↑s303.snd.fst : Int) - 1) ∧ (((↑s303.snd.fst : Int) - 1 : Int) < (↑s299.snd.fst : Int))) <|
              .load (p304.fst, p304.snd + ((↑s303.snd.fst : Int) - 1).toNat) (.ptr) fun q305 =>
              .nonnil (q305) fun p306 =>
              .load (p306.fst, p306.snd + 1) (.int .i64) fun i307 =>
              .guard (InK IntKind.i64 (i295 + i307)) <|
              .nonnil (r6.fst) fun p308 =>
              .store (p308.fst, p308.snd + 1) (.int .i64 (i295 + i307)) <|
              .nonnil (r11.fst) fun p309 =>
              .load (p309.fst, p309.snd + 1) (.int .i64) fun i310 =>
              .nonnil (r6.fst) fun p311 =>
              .load (p311.fst, p311.snd + 3) (.ptr) fun q312 =>
              .nonnil (q312) fun p313 =>
              .load p313 (.sl) fun s314 =>
              .nonnil (r6.fst) fun p315 =>
              .load (p315.fst, p315.snd + 3) (.ptr) fun q316 =>
              .nonnil (q316) fun p317 =>
              .load p317 (.sl) fun s318 =>
              .guard (InK IntKind.i64 ((↑s318.snd.fst : Int) - 1)) <|
              .nonnil (s314.fst) fun p319 =>
              .guard (((0 : Int) ≤ (↑s318.snd.fst : Int) - 1) ∧ (((↑s318.snd.fst : Int) - 1 : Int) < (↑s314.snd.fst : Int))) <|
              .load (p319.fst, p319.snd + ((↑s318.snd.fst : Int) - 1).toNat) (.ptr) fun q320 =>
              .nonnil (q320) fun p321 =>
              .load (p321.fst, p321.snd + 1) (.int .i64) fun i322 =>
              .guard (InK IntKind.i64 (i310 - i322)) <|
              .nonnil (r11.fst) fun p323 =>
              .store (p323.fst, p323.snd + 1) (.int .i64 (i310 - i322)) <|
              .done .normal [])
            (.done .normal [])) [] fun x324 =>
          .done .normal [])) [] fun x325 =>
      .done .normal [])) [] fun x326 =>
  .done .ret []

theorem den_mi_nodeRebalance (a0 : PA) (a1 : PA) (a2 : Int) : denFn Try.prog Try.f121 [.c (.addr a0), .c (.addr a1), .c (.int .i64 a2)] = M_mi_nodeRebalance a0 a1 a2 := by kernel_rfl
theorem hc_mi_nodeRebalance (a0 : PA) (a1 : PA) (a2 : Int) {h : H} {R : Value → H → Prop} (hw : wp Try.prog (M_mi_nodeRebalance a0 a1 a2) (Ret R) h) : HC Try.prog fn_mi_nodeRebalance (List.map AV.val [.c (.addr a0), .c (.addr a1), .c (.int .i64 a2)]).toArray h R :=
  den_calls hmix Try.func121 (of_decide_eq_true rfl) (by rw [den_mi_nodeRebalance]; exact hw)

def M_mi_nodeScan (a0 : PA) (a1 : PA) (a2 : Value) (a3 : Bool) : M :=
  .call fn_mi_isoLoad [.c (.addr a0), .c (.addr a1), .c (.bool (a3))] false [.c (.ptr)] fun r0 =>
  .call fn_ni_leaf [.c (.ptr (r0.fst))] false [.c (.bool)] fun r1 =>
  .ite (r1.fst)
  (.bind (some 0) (.loop [.c (.int .i64)] [.c (.int .i64 (0))] fun y2 =>
        .nonnil (r0.fst) fun p3 =>
        .load (p3.fst, p3.snd + 2) (.sl) fun s4 =>
        .ite (decide (y2.fst < (↑s4.snd.fst : Int)))
        (.nonnil (r0.fst) fun p5 =>
          .load (p5.fst, p5.snd + 2) (.sl) fun s6 =>
          .nonnil (s6.fst) fun p7 =>
          .guard (((0 : Int) ≤ y2.fst) ∧ ((y2.fst : Int) < (↑s6.snd.fst : Int))) <|
          .load (p7.fst, p7.snd + mulN (Int.toNat y2.fst) 2 + 1) (.int .i64) fun i8 =>
          .nonnil (r0.fst) fun p9 =>
          .load (p9.fst, p9.snd + 2) (.sl) fun s10 =>
          .nonnil (s10.fst) fun p11 =>
          .guard (((0 : Int) ≤ y2.fst) ∧ ((y2.fst : Int) < (↑s10.snd.fst : Int))) <|
          .load (p11.fst, p11.snd + mulN (Int.toNat y2.fst) 2) (.int .i64) fun i12 =>
          .callv (a2) [.c (.int .i64 (i8)), .c (.int .i64 (i12))] false [.c (.bool)] fun r13 =>
          .ite (!r13.fst)
          (.done .ret [.c (.ff)])
          (.guard (InK IntKind.i64 (y2.fst + 1)) <|
            .done .normal [.c (.int .i64 (y2.fst + 1))]))
        (.done (.exit 0) [])) [] fun x14 =>
    .done .ret [.c (.tt)])
  (.bind (some 2) (.loop [.c (.int .i64)] [.c (.int .i64 (0))] fun y15 =>
        .nonnil (r0.fst) fun p16 =>
        .load (p16.fst, p16.snd + 2) (.sl) fun s17 =>
        .ite (decide (y15.fst < (↑s17.snd.fst : Int)))
        (.nonnil (r0.fst) fun p18 =>
          .load (p18.fst, p18.snd + 3) (.ptr) fun q19 =>
          .nonnil (q19) fun p20 =>
          .load p20 (.sl) fun s21 =>
          .nonnil (s21.fst) fun p22 =>
          .guard (((0 : Int) ≤ y15.fst) ∧ ((y15.fst : Int) < (↑s21.snd.fst : Int))) <|
          .call fn_mi_nodeScan [.c (.addr a0), .c (.addr (p22.fst, p22.snd + Int.toNat y15.fst)), .c (.raw (a2)), .c (.bool (a3))] false [.c (.bool)] fun r23 =>
          .ite (!r23.fst)
          (.done .ret [.c (.ff)])
          (.nonnil (r0.fst) fun p24 =>
            .load (p24.fst, p24.snd + 2) (.sl) fun s25 =>
            .nonnil (s25.fst) fun p26 =>
            .guard (((0 : Int) ≤ y15.fst) ∧ ((y15.fst : Int) < (↑s25.snd.fst : Int))) <|
            .load (p26.fst, p26.snd + mulN (Int.toNat y15.fst) 2 + 1) (.int .i64) fun i27 =>
            .nonnil (r0.fst) fun p28 =>
            .load (p28.fst, p28.snd + 2) (.sl) fun s29 =>
            .nonnil (s29.fst) fun p30 =>
            .guard (((0 : Int) ≤ y15.fst) ∧ ((y15.fst : Int) < (↑s29.snd.fst : Int))) <|
            .load (p30.fst, p30.snd + mulN (Int.toNat y15.fst) 2) (.int .i64) fun i31 =>
            .callv (a2) [.c (.int .i64 (i27)), .c (.int .i64 (i31))] false [.c (.bool)] fun r32 =>
            .ite (!r32.fst)
            (.done .ret [.c (.ff)])
            (.guard (InK IntKind.i64 (y15.fst + 1)) <|
              .done .normal [.c (.int .i64 (y15.fst + 1))])))
        (.done (.exit 2) [])) [] fun x33 =>
    .nonnil (r0.fst) fun p34 =>
    .load (p34.fst, p34.snd + 3) (.ptr) fun q35 =>
    .nonnil (q35) fun p36 =>
    .load p36 (.sl) fun s37 =>
    .nonnil (r0.fst) fun p38 =>
    .load (p38.fst, p38.snd + 3) (.ptr) fun q39 =>
    .nonnil (q39) fun p40 =>
    .load p40 (.sl) fun s41 =>
    .guard (InK IntKind.i64 ((↑s41.snd.fst : Int) - 1)) <|
    .nonnil (s37.fst) fun p42 =>
    .guard (((0 : Int) ≤ (↑s41.snd.fst : Int) - 1) ∧ (((↑s41.snd.fst : Int) - 1 : Int) < (↑s37.snd.fst : Int))) <|
    .call fn_mi_nodeScan [.c (.addr a0), .c (.addr (p42.fst, p42.snd + ((↑s41.snd.fst : Int) - 1).toNat)), .c (.raw (a2)), .c (.bool (a3))] false [.c (.bool)] fun r43 =>
    .done .ret [.c (.bool (r43.fst))])

theorem den_mi_nodeScan (a0 : PA) (a1 : PA) (a2 : Value) (a3 : Bool) : denFn Try.prog Try.f122 [.c (.addr a0), .c (.addr a1), .c (.raw a2), .c (.bool a3)] = M_mi_nodeScan a0 a1 a2 a3 := by kernel_rfl
theorem hc_mi_nodeScan (a0 : PA) (a1 : PA) (a2 : Value) (a3 : Bool) {h : H} {R : Value → H → Prop} (hw : wp Try.prog (M_mi_nodeScan a0 a1 a2 a3) (Ret R) h) : HC Try.prog fn_mi_nodeScan (List.map AV.val [.c (.addr a0), .c (.addr a1), .c (.raw a2), .c (.bool a3)]).toArray h R :=
  den_calls hmix Try.func122 (of_decide_eq_true rfl) (by rw [den_mi_nodeScan]; exact hw)

def M_mi_nodeSet (a0 : PA) (a1 : PA) (a20 : Int) (a21 : Int) : M :=
  .alloc ty_btree_mapPair_int_int [.int .i64 (a20), .int .i64 (a21)] fun n0 =>
  .call fn_mi_isoLoad [.c (.addr a0), .c (.addr a1), .c (.tt)] false [.c (.ptr)] fun r1 =>
  .alloc ty_p_btree_mapNode_int_int [.ptr none] fun n2 =>
  .store (n2, 0) (.ptr (r1.fst)) <|
  .load (n2, 0) (.ptr) fun q3 =>
  .load (n0, 1) (.int .i64) fun i4 =>
  .call fn_mi_search [.c (.addr a0), .c (.ptr (q3)), .c (.int .i64 (i4))] true [.c (.int .i64), .c (.bool)] fun r5 =>
  .ite (r5.snd.fst)
  (.load (n2, 0) (.ptr) fun q6 =>
    .nonnil (q6) fun p7 =>
    .load (p7.fst, p7.snd + 2) (.sl) fun s8 =>
    .nonnil (s8.fst) fun p9 =>
    .guard (((0 : Int) ≤ r5.fst) ∧ ((r5.fst : Int) < (↑s8.snd.fst : Int))) <|
    .load (p9.fst, p9.snd + mulN (Int.toNat r5.fst) 2) (.int .i64) fun i10 =>
    .load (n2, 0) (.ptr) fun q11 =>
    .nonnil (q11) fun p12 =>
    .load (p12.fst, p12.snd + 2) (.sl) fun s13 =>
    .load (n0, 0) (.int .i64) fun i14 =>
    .load (n0, 1) (.int .i64) fun i15 =>
    .nonnil (s13.fst) fun p16 =>
    .guard (((0 : Int) ≤ r5.fst) ∧ ((r5.fst : Int) < (↑s13.snd.fst : Int))) <|
    .store (p16.fst, p16.snd + mulN (Int.toNat r5.fst) 2) (.int .i64 (i14)) <|
    .store (p16.fst, p16.snd + mulN (Int.toNat r5.fst) 2 + 1) (.int .i64 (i15)) <|
    .done .ret [.c (.int .i64 (i10)), .c (.tt), .c (.ff)])
  (.load (n2, 0) (.ptr) fun q17 =>
    .call fn_ni_leaf [.c (.ptr (q17))] false [.c (.bool)] fun r18 =>
    .ite (r18.fst)
    (.load (n2, 0) (.ptr) fun q19 =>
      .nonnil (q19) fun p20 =>
      .load (p20.fst, p20.snd + 2) (.sl) fun s21 =>
      .load (a0.fst, a0.snd + 7) (.int .i64) fun i22 =>
      .ite ((↑s21.snd.fst : Int) == i22)
      (.load (a0.fst, a0.snd + 4) (.int .i64) fun i23 =>
        .done .ret [.c (.int .i64 (i23)), .c (.ff), .c (.tt)])
      (.load (n2, 0) (.ptr) fun q24 =>
        .load (n2, 0) (.ptr) fun q25 =>
        .nonnil (q25) fun p26 =>
        .load (p26.fst, p26.snd + 2) (.sl) fun s27 =>
        .load (a0.fst, a0.snd + 4) (.int .i64) fun i28 =>
        .load (a0.fst, a0.snd + 5) (.int .i64) fun i29 =>
        .alloc ty_btree_mapPair_int_int [.int .i64 (i28), .int .i64 (i29)] fun n30 =>
        .held (p26.fst, p26.snd + 2) (.sl (s27.fst) (s27.snd.fst) (s27.snd.snd)) <|
        .held (n2, 0) (.ptr (q25)) <|
        .held (n2, 0) (.ptr (q24)) <|
        .append ty_btree_mapPair_int_int 2 16 [.int .i64 (0), .int .i64 (0)] ((s27.fst), s27.snd.fst, s27.snd.snd) ((some (n30, 0)), 1, 1) fun s31 =>
        .held (n2, 0) (.ptr (q24)) <|
        .nonnil (q24) fun p32 =>
        .store (p32.fst, p32.snd + 2) (.sl (s31.fst) (s31.snd.fst) (s31.snd.snd)) <|
        .load (n2, 0) (.ptr) fun q33 =>
        .nonnil (q33) fun p34 =>
        .load (p34.fst, p34.snd + 2) (.sl) fun s35 =>
        .guard (InK IntKind.i64 (r5.fst + 1)) <|
        .guard (((0 : Int) ≤ r5.fst + 1) ∧ ((r5.fst + 1 : Int) ≤ (↑s35.snd.fst : Int))) <|
        .load (n2, 0) (.ptr) fun q36 =>
        .nonnil (q36) fun p37 =>
        .load (p37.fst, p37.snd + 2) (.sl) fun s38 =>
        .guard (((0 : Int) ≤ r5.fst) ∧ ((r5.fst : Int) ≤ (↑s38.snd.fst : Int))) <|
        .copy 2 ((slBase s35.fst s35.snd.snd (r5.fst + 1).toNat 2), s35.snd.fst - (r5.fst + 1).toNat, s35.snd.snd - (r5.fst + 1).toNat) ((slBase s38.fst s38.snd.snd (Int.toNat r5.fst) 2), s38.snd.fst - Int.toNat r5.fst, s38.snd.snd - Int.toNat r5.fst) fun m39 =>
        .load (n2, 0) (.ptr) fun q40 =>
        .nonnil (q40) fun p41 =>
        .load (p41.fst, p41.snd + 2) (.sl) fun s42 =>
        .load (n0, 0) (.int .i64) fun i43 =>
        .load (n0, 1) (.int .i64) fun i44 =>
        .nonnil (s42.fst) fun p45 =>
        .guard (((0 : Int) ≤ r5.fst) ∧ ((r5.fst : Int) < (↑s42.snd.fst : Int))) <|
        .store (p45.fst, p45.snd + mulN (Int.toNat r5.fst) 2) (.int .i64 (i43)) <|
        .store (p45.fst, p45.snd + mulN (Int.toNat r5.fst) 2 + 1) (.int .i64 (i44)) <|
        .load (n2, 0) (.ptr) fun q46 =>
        .nonnil (q46) fun p47 =>
        .load (p47.fst, p47.snd + 1) (.int .i64) fun i48 =>
        .guard (InK IntKind.i64 (i48 + 1)) <|
        .nonnil (q46) fun p49 =>
        .store (p49.fst, p49.snd + 1) (.int .i64 (i48 + 1)) <|
        .load (a0.fst, a0.snd + 4) (.int .i64) fun i50 =>
        .done .ret [.c (.int .i64 (i50)), .c (.ff), .c (.ff)]))
    (.load (n2, 0) (.ptr) fun q51 =>
      .nonnil (q51) fun p52 =>
      .load (p52.fst, p52.snd + 3) (.ptr) fun q53 =>
      .nonnil (q53) fun p54 =>
      .load p54 (.sl) fun s55 =>
      .nonnil (s55.fst) fun p56 =>
      .guard (((0 : Int) ≤ r5.fst) ∧ ((r5.fst : Int) < (↑s55.snd.fst : Int))) <|
      .load (n0, 0) (.int .i64) fun i57 =>
      .load (n0, 1) (.int .i64) fun i58 =>
      .call fn_mi_nodeSet [.c (.addr a0), .c (.addr (p56.fst, p56.snd + Int.toNat r5.fst)), .agg [.int .i64 (i57), .int .i64 (i58)]] true [.c (.int .i64), .c (.bool), .c (.bool)] fun r59 =>
      .ite (r59.snd.snd.fst)
      (.load (n2, 0) (.ptr) fun q60 =>
        .nonnil (q60) fun p61 =>
        .load (p61.fst, p61.snd + 2) (.sl) fun s62 =>
        .load (a0.fst, a0.snd + 7) (.int .i64) fun i63 =>
        .ite ((↑s62.snd.fst : Int) == i63)
        (.load (a0.fst, a0.snd + 4) (.int .i64) fun i64 =>
          .done .ret [.c (.int .i64 (i64)), .c (.ff), .c (.tt)])
        (.load (n2, 0) (.ptr) fun q65 =>
          .nonnil (q65) fun p66 =>
          .load (p66.fst, p66.snd + 3) (.ptr) fun q67 =>
          .nonnil (q67) fun p68 =>
          .load p68 (.sl) fun s69 =>
          .nonnil (s69.fst) fun p70 =>
          .guard (((0 : Int) ≤ r5.fst) ∧ ((r5.fst : Int) < (↑s69.snd.fst : Int))) <|
          .load (p70.fst, p70.snd + Int.toNat r5.fst) (.ptr) fun q71 =>
          .call fn_mi_nodeSplit [.c (.addr a0), .c (.ptr (q71))] true [.c (.ptr), .agg [.int .i64, .int .i64]] fun r72 =>
          .alloc ty_btree_mapPair_int_int [.int .i64 (0), .int .i64 (0)] fun n73 =>
          .store (n73, 0) (.int .i64 (r72.snd.fst.fst)) <|
          .store (n73, 1) (.int .i64 (r72.snd.fst.snd.fst)) <|
          .load (n2, 0) (.ptr) fun q74 =>
          .nonnil (q74) fun p75 =>
          .load (p75.fst, p75.snd + 3) (.ptr) fun q76 =>
          .load (n2, 0) (.ptr) fun q77 =>
          .nonnil (q77) fun p78 =>
          .load (p78.fst, p78.snd + 3) (.ptr) fun q79 =>
          .nonnil (q79) fun p80 =>
          .load p80 (.sl) fun s81 =>
          .alloc ty_p_btree_mapNode_int_int [.ptr none] fun n82 =>
          .held p80 (.sl (s81.fst) (s81.snd.fst) (s81.snd.snd)) <|
          .held (p78.fst, p78.snd + 3) (.ptr (q79)) <|
          .held (n2, 0) (.ptr (q77)) <|
          .held (p75.fst, p75.snd + 3) (.ptr (q76)) <|
          .held (n2, 0) (.ptr (q74)) <|
          .append ty_p_btree_mapNode_int_int 1 8 [.ptr none] ((s81.fst), s81.snd.fst, s81.snd.snd) ((some (n82, 0)), 1, 1) fun s83 =>
          .held (p75.fst, p75.snd + 3) (.ptr (q76)) <|
          .held (n2, 0) (.ptr (q74)) <|
          .nonnil (q76) fun p84 =>
          .store p84 (.sl (s83.fst) (s83.snd.fst) (s83.snd.snd)) <|
          .load (n2, 0) (.ptr) fun q85 =>
          .nonnil (q85) fun p86 =>
          .load (p86.fst, p86.snd + 3) (.ptr) fun q87 =>
          .nonnil (q87) fun p88 =>
          .load p88 (.sl) fun s89 =>
          .guard (InK IntKind.i64 (r5.fst + 1)) <|
          .guard (((0 : Int) ≤ r5.fst + 1) ∧ ((r5.fst + 1 : Int) ≤ (↑s89.snd.fst : Int))) <|
          .load (n2, 0) (.ptr) fun q90 =>
          .nonnil (q90) fun p91 =>
          .load (p91.fst, p91.snd + 3) (.ptr) fun q92 =>
          .nonnil (q92) fun p93 =>
          .load p93 (.sl) fun s94 =>
          .guard (((0 : Int) ≤ r5.fst) ∧ ((r5.fst : Int) ≤ (↑s94.snd.fst : Int))) <|
          .copy 1 ((slBase s89.fst s89.snd.snd (r5.fst + 1).toNat 1), s89.snd.fst - (r5.fst + 1).toNat, s89.snd.snd - (r5.fst + 1).toNat) ((slBase s94.fst s94.snd.snd (Int.toNat r5.fst) 1), s94.snd.fst - Int.toNat r5.fst, s94.snd.snd - Int.toNat r5.fst) fun m95 =>
          .load (n2, 0) (.ptr) fun q96 =>
          .nonnil (q96) fun p97 =>
          .load (p97.fst, p97.snd + 3) (.ptr) fun q98 =>
          .nonnil (q98) fun p99 =>
          .load p99 (.sl) fun s100 =>
          .guard (InK IntKind.i64 (r5.fst + 1)) <|
          .nonnil (s100.fst) fun p101 =>
          .guard (((0 : Int) ≤ r5.fst + 1) ∧ ((r5.fst + 1 : Int) < (↑s100.snd.fst : Int))) <|
          .store (p101.fst, p101.snd + (r5.fst + 1).toNat) (.ptr (r72.fst)) <|
          .load (n2, 0) (.ptr) fun q102 =>
          .load (n2, 0) (.ptr) fun q103 =>
          .nonnil (q103) fun p104 =>
          .load (p104.fst, p104.snd + 2) (.sl) fun s105 =>
          .load (a0.fst, a0.snd + 4) (.int .i64) fun i106 =>
          .load (a0.fst, a0.snd + 5) (.int .i64) fun i107 =>
          .alloc ty_btree_mapPair_int_int [.int .i64 (i106), .int .i64 (i107)] fun n108 =>
          .held (p104.fst, p104.snd + 2) (.sl (s105.fst) (s105.snd.fst) (s105.snd.snd)) <|
          .held (n2, 0) (.ptr (q103)) <|
          .held (n2, 0) (.ptr (q102)) <|
          .append ty_btree_mapPair_int_int 2 16 [.int .i64 (0), .int .i64 (0)] ((s105.fst), s105.snd.fst, s105.snd.snd) ((some (n108, 0)), 1, 1) fun s109 =>
          .held (n2, 0) (.ptr (q102)) <|
          .nonnil (q102) fun p110 =>
          .store (p110.fst, p110.snd + 2) (.sl (s109.fst) (s109.snd.fst) (s109.snd.snd)) <|
          .load (n2, 0) (.ptr) fun q111 =>
          .nonnil (q111) fun p112 =>
          .load (p112.fst, p112.snd + 2) (.sl) fun s113 =>
          .guard (InK IntKind.i64 (r5.fst + 1)) <|
          .guard (((0 : Int) ≤ r5.fst + 1) ∧ ((r5.fst + 1 : Int) ≤ (↑s113.snd.fst : Int))) <|
          .load (n2, 0) (.ptr) fun q114 =>
          .nonnil (q114) fun p115 =>
          .load (p115.fst, p115.snd + 2) (.sl) fun s116 =>
          .guard (((0 : Int) ≤ r5.fst) ∧ ((r5.fst : Int) ≤ (↑s116.snd.fst : Int))) <|
          .copy 2 ((slBase s113.fst s113.snd.snd (r5.fst + 1).toNat 2), s113.snd.fst - (r5.fst + 1).toNat, s113.snd.snd - (r5.fst + 1).toNat) ((slBase s116.fst s116.snd.snd (Int.toNat r5.fst) 2), s116.snd.fst - Int.toNat r5.fst, s116.snd.snd - Int.toNat r5.fst) fun m117 =>
          .load (n2, 0) (.ptr) fun q118 =>
          .nonnil (q118) fun p119 =>
          .load (p119.fst, p119.snd + 2) (.sl) fun s120 =>
          .load (n73, 0) (.int .i64) fun i121 =>
          .load (n73, 1) (.int .i64) fun i122 =>
          .nonnil (s120.fst) fun p123 =>
          .guard (((0 : Int) ≤ r5.fst) ∧ ((r5.fst : Int) < (↑s120.snd.fst : Int))) <|
          .store (p123.fst, p123.snd + mulN (Int.toNat r5.fst) 2) (.int .i64 (i121)) <|
          .store (p123.fst, p123.snd + mulN (Int.toNat r5.fst) 2 + 1) (.int .i64 (i122)) <|
          .load (n0, 0) (.int .i64) fun i124 =>
          .load (n0, 1) (.int .i64) fun i125 =>
          .call fn_mi_nodeSet [.c (.addr a0), .c (.addr (n2, 0)), .agg [.int .i64 (i124), .int .i64 (i125)]] true [.c (.int .i64), .c (.bool), .c (.bool)] fun r126 =>
          .done .ret [.c (.int .i64 (r126.fst)), .c (.bool (r126.snd.fst)), .c (.bool (r126.snd.snd.fst))]))
      (.bind none (.ite (!r59.snd.fst)
          (.load (n2, 0) (.ptr) fun q127 =>
            .nonnil (q127) fun p128 =>
            .load (p128.fst, p128.snd + 1) (.int .i64) fun i129 =>
            .guard (InK IntKind.i64 (i129 + 1)) <|
            .nonnil (q127) fun p130 =>
            .store (p130.fst, p130.snd + 1) (.int .i64 (i129 + 1)) <|
            .done .normal [])
          (.done .normal [])) [] fun x131 =>
        .done .ret [.c (.int .i64 (r59.fst)), .c (.bool (r59.snd.fst)), .c (.ff)])))

theorem den_mi_nodeSet (a0 : PA) (a1 : PA) (a20 : Int) (a21 : Int) : denFn Try.prog Try.f105 [.c (.addr a0), .c (.addr a1), .agg [.int .i64 a20, .int .i64 a21]] = M_mi_nodeSet a0 a1 a20 a21 := by kernel_rfl
theorem hc_mi_nodeSet (a0 : PA) (a1 : PA) (a20 : Int) (a21 : Int) {h : H} {R : Value → H → Prop} (hw : wp Try.prog (M_mi_nodeSet a0 a1 a20 a21) (Ret R) h) : HC Try.prog fn_mi_nodeSet (List.map AV.val [.c (.addr a0), .c (.addr a1), .agg [.int .i64 a20, .int .i64 a21]]).toArray h R :=
  den_calls hmix Try.func105 (of_decide_eq_true rfl) (by rw [den_mi_nodeSet]; exact hw)

def M_mi_nodeSplit (a0 : PA) (a1 : PA) : M :=
  .alloc ty_btree_mapPair_int_int [.int .i64 (0), .int .i64 (0)] fun n0 =>
  .load (a0.fst, a0.snd + 7) (.int .i64) fun i1 =>
  .guard (((2 : Int) ≠ 0) ∧ (InK IntKind.i64 (Int.tdiv i1 2))) <|
  .load (a1.fst, a1.snd + 2) (.sl) fun s2 =>
  .nonnil (s2.fst) fun p3 =>
  .guard (((0 : Int) ≤ Int.tdiv i1 2) ∧ ((Int.tdiv i1 2 : Int) < (↑s2.snd.fst : Int))) <|
  .load (p3.fst, p3.snd + mulN (Int.tdiv i1 2).toNat 2) (.int .i64) fun i4 =>
  .load (p3.fst, p3.snd + mulN (Int.tdiv i1 2).toNat 2 + 1) (.int .i64) fun i5 =>
  .store (n0, 0) (.int .i64 (i4)) <|
  .store (n0, 1) (.int .i64 (i5)) <|
  .call fn_ni_leaf [.c (.addr a1)] false [.c (.bool)] fun r6 =>
  .call fn_mi_newNode [.c (.addr a0), .c (.bool (r6.fst))] false [.c (.ptr)] fun r7 =>
  .load (a1.fst, a1.snd + 2) (.sl) fun s8 =>
  .guard (InK IntKind.i64 (Int.tdiv i1 2 + 1)) <|
  .guard (((0 : Int) ≤ Int.tdiv i1 2 + 1) ∧ ((Int.tdiv i1 2 + 1 : Int) ≤ (↑s8.snd.fst : Int))) <|
  .nonnil (r7.fst) fun p9 =>
  .store (p9.fst, p9.snd + 2) (.sl (slBase s8.fst s8.snd.snd (Int.tdiv i1 2 + 1).toNat 2) (s8.snd.fst - (Int.tdiv i1 2 + 1).toNat) (s8.snd.snd - (Int.tdiv i1 2 + 1).toNat)) <|
  .call fn_ni_leaf [.c (.addr a1)] false [.c (.bool)] fun r10 =>
  .bind none (.ite (!r10.fst)
    (.nonnil (r7.fst) fun p11 =>
      .load (p11.fst, p11.snd + 3) (.ptr) fun q12 =>
      .load (a1.fst, a1.snd + 3) (.ptr) fun q13 =>
      .nonnil (q13) fun p14 =>
      .load p14 (.sl) fun s15 =>
      .guard (InK IntKind.i64 (Int.tdiv i1 2 + 1)) <|
      .guard (((0 : Int) ≤ Int.tdiv i1 2 + 1) ∧ ((Int.tdiv i1 2 + 1 : Int) ≤ (↑s15.snd.fst : Int))) <|
      .nonnil (q12) fun p16 =>
      .store p16 (.sl (slBase s15.fst s15.snd.snd (Int.tdiv i1 2 + 1).toNat 1) (s15.snd.fst - (Int.tdiv i1 2 + 1).toNat) (s15.snd.snd - (Int.tdiv i1 2 + 1).toNat)) <|
      .done .normal [])
    (.done .normal [])) [] fun x17 =>
  .call fn_ni_updateCount [.c (.ptr (r7.fst))] true [] fun r18 =>
  .load (a1.fst, a1.snd + 2) (.sl) fun s19 =>
  .load (a0.fst, a0.snd + 4) (.int .i64) fun i20 =>
  .load (a0.fst, a0.snd + 5) (.int .i64) fun i21 =>
  .nonnil (s19.fst) fun p22 =>
  .guard (((0 : Int) ≤ Int.tdiv i1 2) ∧ ((Int.tdiv i1 2 : Int) < (↑s19.snd.fst : Int))) <|
  .store (p22.fst, p22.snd + mulN (Int.tdiv i1 2).toNat 2) (.int .i64 (i20)) <|
  .store (p22.fst, p22.snd + mulN (Int.tdiv i1 2).toNat 2 + 1) (.int .i64 (i21)) <|
  .load (a1.fst, a1.snd + 2) (.sl) fun s23 =>
  .guard ((((0 : Int) ≤ Int.tdiv i1 2) ∧ ((Int.tdiv i1 2 : Int) ≤ (↑s23.snd.snd : Int))) ∧ (((0 : Int) ≤ Int.tdiv i1 2) ∧ ((Int.tdiv i1 2 : Int) ≤ (↑(Int.tdiv i1 2).toNat : Int)))) <|
  .store (a1.fst, a1.snd + 2) (.sl (slBase s23.fst (Int.tdiv i1 2).toNat 0 2) ((Int.tdiv i1 2).toNat - 0) ((Int.tdiv i1 2).toNat - 0)) <|
  .call fn_ni_leaf [.c (.addr a1)] false [.c (.bool)] fun r24 =>
  .bind none (.ite (!r24.fst)
    (.load (a1.fst, a1.snd + 3) (.ptr) fun q25 =>
      .load (a1.fst, a1.snd + 3) (.ptr) fun q26 =>
      .nonnil (q26) fun p27 =>
      .load p27 (.sl) fun s28 =>
      .guard (InK IntKind.i64 (Int.tdiv i1 2 + 1)) <|
      .guard (InK IntKind.i64 (Int.tdiv i1 2 + 1)) <|
      .guard ((((0 : Int) ≤ Int.tdiv i1 2 + 1) ∧ ((Int.tdiv i1 2 + 1 : Int) ≤ (↑s28.snd.snd : Int))) ∧ (((0 : Int) ≤ Int.tdiv i1 2 + 1) ∧ ((Int.tdiv i1 2 + 1 : Int) ≤ (↑(Int.tdiv i1 2 + 1).toNat : Int)))) <|
      .nonnil (q25) fun p29 =>
      .store p29 (.sl (slBase s28.fst (Int.tdiv i1 2 + 1).toNat 0 1) ((Int.tdiv i1 2 + 1).toNat - 0) ((Int.tdiv i1 2 + 1).toNat - 0)) <|
      .done .normal [])
    (.done .normal [])) [] fun x30 =>
  .call fn_ni_updateCount [.c (.addr a1)] true [] fun r31 =>
  .load (n0, 0) (.int .i64) fun i32 =>
  .load (n0, 1) (.int .i64) fun i33 =>
  .store (n0, 0) (.int .i64 (i32)) <|
  .store (n0, 1) (.int .i64 (i33)) <|
  .load (n0, 0) (.int .i64) fun i34 =>
  .load (n0, 1) (.int .i64) fun i35 =>
  .done .ret [.c (.ptr (r7.fst)), .agg [.int .i64 (i34), .int .i64 (i35)]]

theorem den_mi_nodeSplit (a0 : PA) (a1 : PA) : denFn Try.prog Try.f106 [.c (.addr a0), .c (.addr a1)] = M_mi_nodeSplit a0 a1 := by kernel_rfl
theorem hc_mi_nodeSplit (a0 : PA) (a1 : PA) {h : H} {R : Value → H → Prop} (hw : wp Try.prog (M_mi_nodeSplit a0 a1) (Ret R) h) : HC Try.prog fn_mi_nodeSplit (List.map AV.val [.c (.addr a0), .c (.addr a1)]).toArray h R :=
  den_calls hmix Try.func106 (of_decide_eq_true rfl) (by rw [den_mi_nodeSplit]; exact hw)

def M_mi_nodeValues (a0 : PA) (a1 : PA) (a2p : Option PA) (a2l : Nat) (a2c : Nat) (a3 : Bool) : M :=
  .call fn_mi_isoLoad [.c (.addr a0), .c (.addr a1), .c (.bool (a3))] false [.c (.ptr)] fun r0 =>
  .call fn_ni_leaf [.c (.ptr (r0.fst))] false [.c (.bool)] fun r1 =>
  .ite (r1.fst)
  (.bind (some 0) (.loop [.c (.int .i64), .c (.sl)] [.c (.int .i64 (0)), .c (.sl (a2p) (a2l) (a2c))] fun y2 =>
        .nonnil (r0.fst) fun p3 =>
        .load (p3.fst, p3.snd + 2) (.sl) fun s4 =>
        .ite (decide (y2.fst < (↑s4.snd.fst : Int)))
        (.nonnil (r0.fst) fun p5 =>
          .load (p5.fst, p5.snd + 2) (.sl) fun s6 =>
          .nonnil (s6.fst) fun p7 =>
          .guard (((0 : Int) ≤ y2.fst) ∧ ((y2.fst : Int) < (↑s6.snd.fst : Int))) <|
          .load (p7.fst, p7.snd + mulN (Int.toNat y2.fst) 2) (.int .i64) fun i8 =>
          .alloc ty_int [.int .i64 (i8)] fun n9 =>
          .append ty_int 1 8 [.int .i64 (0)] ((y2.snd.fst.fst), y2.snd.fst.snd.fst, y2.snd.fst.snd.snd) ((some (n9, 0)), 1, 1) fun s10 =>
          .guard (InK IntKind.i64 (y2.fst + 1)) <|
          .done .normal [.c (.int .i64 (y2.fst + 1)), .c (.sl (s10.fst) (s10.snd.fst) (s10.snd.snd))])
        (.done (.exit 0) [.c (.sl (y2.snd.fst.fst) (y2.snd.fst.snd.fst) (y2.snd.fst.snd.snd))])) [.c (.sl)] fun x11 =>
    .done .ret [.c (.sl (x11.fst.fst) (x11.fst.snd.fst) (x11.fst.snd.snd))])
  (.bind (some 2) (.loop [.c (.int .i64), .c (.sl)] [.c (.int .i64 (0)), .c (.sl (a2p) (a2l) (a2c))] fun y12 =>
        .nonnil (r0.fst) fun p13 =>
        .load (p13.fst, p13.snd + 2) (.sl) fun s14 =>
        .ite (decide (y12.fst < (↑s14.snd.fst : Int)))
        (.nonnil (r0.fst) fun p15 =>
          .load (p15.fst, p15.snd + 3) (.ptr) fun q16 =>
          .nonnil (q16) fun p17 =>
          .load p17 (.sl) fun s18 =>
          .nonnil (s18.fst) fun p19 =>
          .guard (((0 : Int) ≤ y12.fst) ∧ ((y12.fst : Int) < (↑s18.snd.fst : Int))) <|
          .call fn_mi_nodeValues [.c (.addr a0), .c (.addr (p19.fst, p19.snd + Int.toNat y12.fst)), .c (.sl (y12.snd.fst.fst) (y12.snd.fst.snd.fst) (y12.snd.fst.snd.snd)), .c (.bool (a3))] false [.c (.sl)] fun r20 =>
          .nonnil (r0.fst) fun p21 =>
          .load (p21.fst, p21.snd + 2) (.sl) fun s22 =>
          .nonnil (s22.fst) fun p23 =>
          .guard (((0 : Int) ≤ y12.fst) ∧ ((y12.fst : Int) < (↑s22.snd.fst : Int))) <|
          .load (p23.fst, p23.snd + mulN (Int.toNat y12.fst) 2) (.int .i64) fun i24 =>
          .alloc ty_int [.int .i64 (i24)] fun n25 =>
          .append ty_int 1 8 [.int .i64 (0)] ((r20.fst.fst), r20.fst.snd.fst, r20.fst.snd.snd) ((some (n25, 0)), 1, 1) fun s26 =>
          .guard (InK IntKind.i64 (y12.fst + 1)) <|
          .done .normal [.c (.int .i64 (y12.fst + 1)), .c (.sl (s26.fst) (s26.snd.fst) (s26.snd.snd))])
        (.done (.exit 2) [.c (.sl (y12.snd.fst.fst) (y12.snd.fst.snd.fst) (y12.snd.fst.snd.snd))])) [.c (.sl)] fun x27 =>
    .nonnil (r0.fst) fun p28 =>
    .load (p28.fst, p28.snd + 3) (.ptr) fun q29 =>
    .nonnil (q29) fun p30 =>
    .load p30 (.sl) fun s31 =>
    .nonnil (r0.fst) fun p32 =>
    .load (p32.fst, p32.snd + 3) (.ptr) fun q33 =>
    .nonnil (q33) fun p34 =>
    .load p34 (.sl) fun s35 =>
    .guard (InK IntKind.i64 ((↑s35.snd.fst : Int) - 1)) <|
    .nonnil (s31.fst) fun p36 =>
    .guard (((0 : Int) ≤ (↑s35.snd.fst : Int) - 1) ∧ (((↑s35.snd.fst : Int) - 1 : Int) < (↑s31.snd.fst : Int))) <|
    .call fn_mi_nodeValues [.c (.addr a0), .c (.addr (p36.fst, p36.snd + ((↑s35.snd.fst : Int) - 1).toNat)), .c (.sl (x27.fst.fst) (x27.fst.snd.fst) (x27.fst.snd.snd)), .c (.bool (a3))] false [.c (.sl)] fun r37 =>
    .done .ret [.c (.sl (r37.fst.fst) (r37.fst.snd.fst) (r37.fst.snd.snd))])

theorem den_mi_nodeValues (a0 : PA) (a1 : PA) (a2p : Option PA) (a2l : Nat) (a2c : Nat) (a3 : Bool) : denFn Try.prog Try.f108 [.c (.addr a0), .c (.addr a1), .c (.sl a2p a2l a2c), .c (.bool a3)] = M_mi_nodeValues a0 a1 a2p a2l a2c a3 := by kernel_rfl
theorem hc_mi_nodeValues (a0 : PA) (a1 : PA) (a2p : Option PA) (a2l : Nat) (a2c : Nat) (a3 : Bool) {h : H} {R : Value → H → Prop} (hw : wp Try.prog (M_mi_nodeValues a0 a1 a2p a2l a2c a3) (Ret R) h) : HC Try.prog fn_mi_nodeValues (List.map AV.val [.c (.addr a0), .c (.addr a1), .c (.sl a2p a2l a2c), .c (.bool a3)]).toArray h R :=
  den_calls hmix Try.func108 (of_decide_eq_true rfl) (by rw [den_mi_nodeValues]; exact hw)

def M_mi_scan (a0 : PA) (a1 : Value) (a2 : Bool) : M :=
  .load (a0.fst, a0.snd + 2) (.ptr) fun q0 =>
  .ite (Option.isNone q0)
  (.done .ret [])
  (.call fn_mi_nodeScan [.c (.addr a0), .c (.addr (a0.fst, a0.snd + 2)), .c (.raw (a1)), .c (.bool (a2))] false [.c (.bool)] fun r1 =>
    .done .ret [])

theorem den_mi_scan (a0 : PA) (a1 : Value) (a2 : Bool) : denFn Try.prog Try.f98 [.c (.addr a0), .c (.raw a1), .c (.bool a2)] = M_mi_scan a0 a1 a2 := by kernel_rfl
theorem hc_mi_scan (a0 : PA) (a1 : Value) (a2 : Bool) {h : H} {R : Value → H → Prop} (hw : wp Try.prog (M_mi_scan a0 a1 a2) (Ret R) h) : HC Try.prog fn_mi_scan (List.map AV.val [.c (.addr a0), .c (.raw a1), .c (.bool a2)]).toArray h R :=
  den_calls hmix Try.func98 (of_decide_eq_true rfl) (by rw [den_mi_scan]; exact hw)

def M_mi_search (a0 : PA) (a1 : PA) (a2 : Int) : M :=
  .load (a1.fst, a1.snd + 2) (.sl) fun s0 =>
  .bind (some 0) (.loop [.c (.int .i64), .c (.int .i64)] [.c (.int .i64 ((↑s0.snd.fst : Int))), .c (.int .i64 (0))] fun y1 =>
      .ite (decide (y1.snd.fst < y1.fst))
      (.guard (InK IntKind.i64 (y1.snd.fst + y1.fst)) <|
        .guard (((2 : Int) ≠ 0) ∧ (InK IntKind.i64 ((y1.snd.fst + y1.fst).tdiv 2))) <|
        .load (a1.fst, a1.snd + 2) (.sl) fun s2 =>
        .nonnil (s2.fst) fun p3 =>
        .guard (((0 : Int) ≤ (y1.snd.fst + y1.fst).tdiv 2) ∧ (((y1.snd.fst + y1.fst).tdiv 2 : Int) < (↑s2.snd.fst : Int))) <|
        .load (p3.fst, p3.snd + mulN ((y1.snd.fst + y1.fst).tdiv 2).toNat 2 + 1) (.int .i64) fun i4 =>
        .bind none (.ite (!decide (a2 < i4))
          (.guard (InK IntKind.i64 ((y1.snd.fst + y1.fst).tdiv 2 + 1)) <|
            .done .normal [.c (.int .i64 (y1.fst)), .c (.int .i64 ((y1.snd.fst + y1.fst).tdiv 2 + 1))])
          (.done .normal [.c (.int .i64 ((y1.snd.fst + y1.fst).tdiv 2)), .c (.int .i64 (y1.snd.fst))])) [.c (.int .i64), .c (.int .i64)] fun x5 =>
        .done .normal [.c (.int .i64 (x5.fst)), .c (.int .i64 (x5.snd.fst))])
      (.done (.exit 0) [.c (.int .i64 (y1.snd.fst))])) [.c (.int .i64)] fun x6 =>
  .bind none (.ite (decide (x6.fst > 0))
    (.load (a1.fst, a1.snd + 2) (.sl) fun s7 =>
      .guard (InK IntKind.i64 (x6.fst - 1)) <|
      .nonnil (s7.fst) fun p8 =>
      .guard (((0 : Int) ≤ x6.fst - 1) ∧ ((x6.fst - 1 : Int) < (↑s7.snd.fst : Int))) <|
      .load (p8.fst, p8.snd + mulN (x6.fst - 1).toNat 2 + 1) (.int .i64) fun i9 =>
      .done .normal [.c (.bool (!decide (i9 < a2)))])
    (.done .normal [.c (.ff)])) [.c (.bool)] fun x10 =>
  .ite (x10.fst)
  (.guard (InK IntKind.i64 (x6.fst - 1)) <|
    .done .ret [.c (.int .i64 (x6.fst - 1)), .c (.tt)])
  (.done .ret [.c (.int .i64 (x6.fst)), .c (.ff)])

theorem den_mi_search (a0 : PA) (a1 : PA) (a2 : Int) : denFn Try.prog Try.f120 [.c (.addr a0), .c (.addr a1), .c (.int .i64 a2)] = M_mi_search a0 a1 a2 := by kernel_rfl
theorem hc_mi_search (a0 : PA) (a1 : PA) (a2 : Int) {h : H} {R : Value → H → Prop} (hw : wp Try.prog (M_mi_search a0 a1 a2) (Ret R) h) : HC Try.prog fn_mi_search (List.map AV.val [.c (.addr a0), .c (.addr a1), .c (.int .i64 a2)]).toArray h R :=
  den_calls hmix Try.func120 (of_decide_eq_true rfl) (by rw [den_mi_search]; exact hw)

def M_mi_values (a0 : PA) (a1 : Bool) : M :=
  .call fn_mi_Len [.c (.addr a0)] false [.c (.int .i64)] fun r0 =>
  .make ty_int 1 8 [.int .i64 (0)] (0) (r0.fst) fun s1 =>
  .load (a0.fst, a0.snd + 2) (.ptr) fun q2 =>
  .bind none (.ite (!Option.isNone q2)
    (.call fn_mi_nodeValues [.c (.addr a0), .c (.addr (a0.fst, a0.snd + 2)), .c (.sl (s1.fst) (s1.snd.fst) (s1.snd.snd)), .c (.bool (a1))] false [.c (.sl)] fun r3 =>
      .done .normal [.c (.sl (r3.fst.fst) (r3.fst.snd.fst) (r3.fst.snd.snd))])
    (.done .normal [.c (.sl (s1.fst) (s1.snd.fst) (s1.snd.snd))])) [.c (.sl)] fun x4 =>
  .done .ret [.c (.sl (x4.fst.fst) (x4.fst.snd.fst) (x4.fst.snd.snd))]

theorem den_mi_values (a0 : PA) (a1 : Bool) : denFn Try.prog Try.f86 [.c (.addr a0), .c (.bool a1)] = M_mi_values a0 a1 := by kernel_rfl
theorem hc_mi_values (a0 : PA) (a1 : Bool) {h : H} {R : Value → H → Prop} (hw : wp Try.prog (M_mi_values a0 a1) (Ret R) h) : HC Try.prog fn_mi_values (List.map AV.val [.c (.addr a0), .c (.bool a1)]).toArray h R :=
  den_calls hmix Try.func86 (of_decide_eq_true rfl) (by rw [den_mi_values]; exact hw)

def M_ni_keys (a0 : PA) (a1p : Option PA) (a1l : Nat) (a1c : Nat) : M :=
  .call fn_ni_leaf [.c (.addr a0)] false [.c (.bool)] fun r0 =>
  .ite (r0.fst)
  (.bind (some 0) (.loop [.c (.int .i64), .c (.sl)] [.c (.int .i64 (0)), .c (.sl (a1p) (a1l) (a1c))] fun y1 =>
        .load (a0.fst, a0.snd + 2) (.sl) fun s2 =>
        .ite (decide (y1.fst < (↑s2.snd.fst : Int)))
        (.load (a0.fst, a0.snd + 2) (.sl) fun s3 =>
          .nonnil (s3.fst) fun p4 =>
          .guard (((0 : Int) ≤ y1.fst) ∧ ((y1.fst : Int) < (↑s3.snd.fst : Int))) <|
          .load (p4.fst, p4.snd + mulN (Int.toNat y1.fst) 2 + 1) (.int .i64) fun i5 =>
          .alloc ty_int [.int .i64 (i5)] fun n6 =>
          .append ty_int 1 8 [.int .i64 (0)] ((y1.snd.fst.fst), y1.snd.fst.snd.fst, y1.snd.fst.snd.snd) ((some (n6, 0)), 1, 1) fun s7 =>
          .guard (InK IntKind.i64 (y1.fst + 1)) <|
          .done .normal [.c (.int .i64 (y1.fst + 1)), .c (.sl (s7.fst) (s7.snd.fst) (s7.snd.snd))])
        (.done (.exit 0) [.c (.sl (y1.snd.fst.fst) (y1.snd.fst.snd.fst) (y1.snd.fst.snd.snd))])) [.c (.sl)] fun x8 =>
    .done .ret [.c (.sl (x8.fst.fst) (x8.fst.snd.fst) (x8.fst.snd.snd))])
  (.bind (some 2) (.loop [.c (.int .i64), .c (.sl)] [.c (.int .i64 (0)), .c (.sl (a1p) (a1l) (a1c))] fun y9 =>
        .load (a0.fst, a0.snd + 2) (.sl) fun s10 =>
        .ite (decide (y9.fst < (↑s10.snd.fst : Int)))
        (.load (a0.fst, a0.snd + 3) (.ptr) fun q11 =>
          .nonnil (q11) fun p12 =>
          .load p12 (.sl) fun s13 =>
          .nonnil (s13.fst) fun p14 =>
          .guard (((0 : Int) ≤ y9.fst) ∧ ((y9.fst : Int) < (↑s13.snd.fst : Int))) <|
          .load (p14.fst, p14.snd + Int.toNat y9.fst) (.ptr) fun q15 =>
          .call fn_ni_keys [.c (.ptr (q15)), .c (.sl (y9.snd.fst.fst) (y9.snd.fst.snd.fst) (y9.snd.fst.snd.snd))] false [.c (.sl)] fun r16 =>
          .load (a0.fst, a0.snd + 2) (.sl) fun s17 =>
          .nonnil (s17.fst) fun p18 =>
          .guard (((0 : Int) ≤ y9.fst) ∧ ((y9.fst : Int) < (↑s17.snd.fst : Int))) <|
          .load (p18.fst, p18.snd + mulN (Int.toNat y9.fst) 2 + 1) (.int .i64) fun i19 =>
          .alloc ty_int [.int .i64 (i19)] fun n20 =>
          .append ty_int 1 8 [.int .i64 (0)] ((r16.fst.fst), r16.fst.snd.fst, r16.fst.snd.snd) ((some (n20, 0)), 1, 1) fun s21 =>
          .guard (InK IntKind.i64 (y9.fst + 1)) <|
          .done .normal [.c (.int .i64 (y9.fst + 1)), .c (.sl (s21.fst) (s21.snd.fst) (s21.snd.snd))])
        (.done (.exit 2) [.c (.sl (y9.snd.fst.fst) (y9.snd.fst.snd.fst) (y9.snd.fst.snd.snd))])) [.c (.sl)] fun x22 =>
    .load (a0.fst, a0.snd + 3) (.ptr) fun q23 =>
    .nonnil (q23) fun p24 =>
    .load p24 (.sl) fun s25 =>
    .load (a0.fst, a0.snd + 3) (.ptr) fun q26 =>
    .nonnil (q26) fun p27 =>
    .load p27 (.sl) fun s28 =>
    .guard (InK IntKind.i64 ((↑s28.snd.fst : Int) - 1)) <|
    .nonnil (s25.fst) fun p29 =>
    .guard (((0 : Int) ≤ (↑s28.snd.fst : Int) - 1) ∧ (((↑s28.snd.fst : Int) - 1 : Int) < (↑s25.snd.fst : Int))) <|
    .load (p29.fst, p29.snd + ((↑s28.snd.fst : Int) - 1).toNat) (.ptr) fun q30 =>
    .call fn_ni_keys [.c (.ptr (q30)), .c (.sl (x22.fst.fst) (x22.fst.snd.fst) (x22.fst.snd.snd))] false [.c (.sl)] fun r31 =>
    .done .ret [.c (.sl (r31.fst.fst) (r31.fst.snd.fst) (r31.fst.snd.snd))])

theorem den_ni_keys (a0 : PA) (a1p : Option PA) (a1l : Nat) (a1c : Nat) : denFn Try.prog Try.f85 [.c (.addr a0), .c (.sl a1p a1l a1c)] = M_ni_keys a0 a1p a1l a1c := by kernel_rfl
theorem hc_ni_keys (a0 : PA) (a1p : Option PA) (a1l : Nat) (a1c : Nat) {h : H} {R : Value → H → Prop} (hw : wp Try.prog (M_ni_keys a0 a1p a1l a1c) (Ret R) h) : HC Try.prog fn_ni_keys (List.map AV.val [.c (.addr a0), .c (.sl a1p a1l a1c)]).toArray h R :=
  den_calls hmix Try.func85 (of_decide_eq_true rfl) (by rw [den_ni_keys]; exact hw)

def M_ni_leaf (a0 : PA) : M :=
  .load (a0.fst, a0.snd + 3) (.ptr) fun q0 =>
  .done .ret [.c (.bool (Option.isNone q0))]

theorem den_ni_leaf (a0 : PA) : denFn Try.prog Try.f94 [.c (.addr a0)] = M_ni_leaf a0 := by kernel_rfl
theorem hc_ni_leaf (a0 : PA) {h : H} {R : Value → H → Prop} (hw : wp Try.prog (M_ni_leaf a0) (Ret R) h) : HC Try.prog fn_ni_leaf (List.map AV.val [.c (.addr a0)]).toArray h R :=
  den_calls hmix Try.func94 (of_decide_eq_true rfl) (by rw [den_ni_leaf]; exact hw)

def M_ni_updateCount (a0 : PA) : M :=
  .load (a0.fst, a0.snd + 2) (.sl) fun s0 =>
  .store (a0.fst, a0.snd + 1) (.int .i64 ((↑s0.snd.fst : Int))) <|
  .call fn_ni_leaf [.c (.addr a0)] false [.c (.bool)] fun r1 =>
  .bind none (.ite (!r1.fst)
    (.bind (some 0) (.loop [.c (.int .i64)] [.c (.int .i64 (0))] fun y2 =>
          .load (a0.fst, a0.snd + 3) (.ptr) fun q3 =>
          .nonnil (q3) fun p4 =>
          .load p4 (.sl) fun s5 =>
          .ite (decide (y2.fst < (↑s5.snd.fst : Int)))
          (.load (a0.fst, a0.snd + 1) (.int .i64) fun i6 =>
            .load (a0.fst, a0.snd + 3) (.ptr) fun q7 =>
            .nonnil (q7) fun p8 =>
            .load p8 (.sl) fun s9 =>
            .nonnil (s9.fst) fun p10 =>
            .guard (((0 : Int) ≤ y2.fst) ∧ ((y2.fst : Int) < (↑s9.snd.fst : Int))) <|
            .load (p10.fst, p10.snd + Int.toNat y2.fst) (.ptr) fun q11 =>
            .nonnil (q11) fun p12 =>
            .load (p12.fst, p12.snd + 1) (.int .i64) fun i13 =>
            .guard (InK IntKind.i64 (i6 + i13)) <|
            .store (a0.fst, a0.snd + 1) (.int .i64 (i6 + i13)) <|
            .guard (InK IntKind.i64 (y2.fst + 1)) <|
            .done .normal [.c (.int .i64 (y2.fst + 1))])
          (.done (.exit 0) [])) [] fun x14 =>
      .done .normal [])
    (.done .normal [])) [] fun x15 =>
  .done .ret []

theorem den_ni_updateCount (a0 : PA) : denFn Try.prog Try.f107 [.c (.addr a0)] = M_ni_updateCount a0 := by kernel_rfl
theorem hc_ni_updateCount (a0 : PA) {h : H} {R : Value → H → Prop} (hw : wp Try.prog (M_ni_updateCount a0) (Ret R) h) : HC Try.prog fn_ni_updateCount (List.map AV.val [.c (.addr a0)]).toArray h R :=
  den_calls hmix Try.func107 (of_decide_eq_true rfl) (by rw [den_ni_updateCount]; exact hw)

end Go.Proofs.Ytkhpbcckaenmcaa
