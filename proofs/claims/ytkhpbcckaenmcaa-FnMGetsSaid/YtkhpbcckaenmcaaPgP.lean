/-
  Functions of the translation as typed programs, and that each is its function's reading. Written by a program of ours (gen2.py). Conditions: none.
-/
import Derived.Test.YtkhpbcckaenmcaaNm
namespace Go.Proofs.Ytkhpbcckaenmcaa
open Go
set_option maxRecDepth 100000
set_option linter.unusedVariables false

def M_mi_DeleteAt (a0 : PA) (a1 : Int) : M :=
  .bind none (.load (a0.fst, a0.snd + 2) (.ptr) fun q0 =>
    .ite (Option.isNone q0)
    (.done .normal [.c (.tt)])
    (.ite (decide (a1 < 0))
      (.done .normal [.c (.tt)])
      (.load (a0.fst, a0.snd + 3) (.int .i64) fun i1 =>
        .done .normal [.c (.bool (decide (a1 ≥ i1)))]))) [.c (.bool)] fun x2 =>
  .ite (x2.fst)
  (.load (a0.fst, a0.snd + 5) (.int .i64) fun i3 =>
    .load (a0.fst, a0.snd + 4) (.int .i64) fun i4 =>
    .done .ret [.c (.int .i64 (i3)), .c (.int .i64 (i4)), .c (.ff)])
  (.alloc ty_8_uint8 [.int .u8 (0), .int .u8 (0), .int .u8 (0), .int .u8 (0), .int .u8 (0), .int .u8 (0), .int .u8 (0), .int .u8 (0)] fun n5 =>
    .guard (((0 : Int) ≤ 0) ∧ ((0 : Int) ≤ (↑8 : Int))) <|
    .alloc ty_btree_mapPair_int_int [.int .i64 (0), .int .i64 (0)] fun n6 =>
    .call fn_mi_isoLoad [.c (.addr a0), .c (.addr (a0.fst, a0.snd + 2)), .c (.tt)] false [.c (.ptr)] fun r7 =>
    .bind (some 0) (.loop [.c (.ptr), .c (.int .i64), .c (.sl)] [.c (.ptr (r7.fst)), .c (.int .i64 (a1)), .c (.sl (slBase (some (n5, 0)) 8 0 1) (0) (8))] fun y8 =>
        .nonnil (y8.fst) fun p9 =>
        .load (p9.fst, p9.snd + 1) (.int .i64) fun i10 =>
        .guard (InK IntKind.i64 (i10 - 1)) <|
        .nonnil (y8.fst) fun p11 =>
        .store (p11.fst, p11.snd + 1) (.int .i64 (i10 - 1)) <|
        .call fn_ni_leaf [.c (.ptr (y8.fst))] false [.c (.bool)] fun r12 =>
        .ite (r12.fst)
        (.nonnil (y8.fst) fun p13 =>
          .load (p13.fst, p13.snd + 2) (.sl) fun s14 =>
          .nonnil (s14.fst) fun p15 =>
          .guard (((0 : Int) ≤ y8.snd.fst) ∧ ((y8.snd.fst : Int) < (↑s14.snd.fst : Int))) <|
          .load (p15.fst, p15.snd + mulN (Int.toNat y8.snd.fst) 2) (.int .i64) fun i16 =>
          .load (p15.fst, p15.snd + mulN (Int.toNat y8.snd.fst) 2 + 1) (.int .i64) fun i17 =>
          .store (n6, 0) (.int .i64 (i16)) <|
          .store (n6, 1) (.int .i64 (i17)) <|
          .nonnil (y8.fst) fun p18 =>
          .load (p18.fst, p18.snd + 2) (.sl) fun s19 =>
          .load (a0.fst, a0.snd + 6) (.int .i64) fun i20 =>
          .ite ((↑s19.snd.fst : Int) == i20)
          (.guard (InK IntKind.u8 y8.snd.fst) <|
            .alloc ty_uint8 [.int .u8 (y8.snd.fst)] fun n21 =>
            .append ty_uint8 1 1 [.int .u8 (0)] ((y8.snd.snd.fst.fst), y8.snd.snd.fst.snd.fst, y8.snd.snd.fst.snd.snd) ((some (n21, 0)), 1, 1) fun s22 =>
            .done (.exit 0) [.c (.sl (s22.fst) (s22.snd.fst) (s22.snd.snd))])
          (.nonnil (y8.fst) fun p23 =>
            .load (p23.fst, p23.snd + 2) (.sl) fun s24 =>
            .guard (((0 : Int) ≤ y8.snd.fst) ∧ ((y8.snd.fst : Int) ≤ (↑s24.snd.fst : Int))) <|
            .nonnil (y8.fst) fun p25 =>
            .load (p25.fst, p25.snd + 2) (.sl) fun s26 =>
            .guard (InK IntKind.i64 (y8.snd.fst + 1)) <|
            .guard (((0 : Int) ≤ y8.snd.fst + 1) ∧ ((y8.snd.fst + 1 : Int) ≤ (↑s26.snd.fst : Int))) <|
            .copy 2 ((slBase s24.fst s24.snd.snd (Int.toNat y8.snd.fst) 2), s24.snd.fst - Int.toNat y8.snd.fst, s24.snd.snd - Int.toNat y8.snd.fst) ((slBase s26.fst s26.snd.snd (y8.snd.fst + 1).toNat 2), s26.snd.fst - (y8.snd.fst + 1).toNat, s26.snd.snd - (y8.snd.fst + 1).toNat) fun m27 =>
            .nonnil (y8.fst) fun p28 =>
            .load (p28.fst, p28.snd + 2) (.sl) fun s29 =>
            .nonnil (y8.fst) fun p30 =>
            .load (p30.fst, p30.snd + 2) (.sl) fun s31 =>
            .guard (InK IntKind.i64 ((↑s31.snd.fst : Int) - 1)) <|
            .load (a0.fst, a0.snd + 4) (.int .i64) fun i32 =>
            .load (a0.fst, a0.snd + 5) (.int .i64) fun i33 =>
            .nonnil (s29.fst) fun p34 =>
            .guard (((0 : Int) ≤ (↑s31.snd.fst : Int) - 1) ∧ (((↑s31.snd.fst : Int) - 1 : Int) < (↑s29.snd.fst : Int))) <|
            .store (p34.fst, p34.snd + mulN ((↑s31.snd.fst : Int) - 1).toNat 2) (.int .i64 (i32)) <|
            .store (p34.fst, p34.snd + mulN ((↑s31.snd.fst : Int) - 1).toNat 2 + 1) (.int .i64 (i33)) <|
            .nonnil (y8.fst) fun p35 =>
            .load (p35.fst, p35.snd + 2) (.sl) fun s36 =>
            .nonnil (y8.fst) fun p37 =>
            .load (p37.fst, p37.snd + 2) (.sl) fun s38 =>
            .guard (InK IntKind.i64 ((↑s38.snd.fst : Int) - 1)) <|
            .guard (((0 : Int) ≤ (↑s38.snd.fst : Int) - 1) ∧ (((↑s38.snd.fst : Int) - 1 : Int) ≤ (↑s36.snd.snd : Int))) <|
            .nonnil (y8.fst) fun p39 =>
            .store (p39.fst, p39.snd + 2) (.sl (slBase s36.fst s36.snd.snd 0 2) (((↑s38.snd.fst : Int) - 1).toNat - 0) (s36.snd.snd - 0)) <|
            .load (a0.fst, a0.snd + 3) (.int .i64) fun i40 =>
            .guard (InK IntKind.i64 (i40 - 1)) <|
            .store (a0.fst, a0.snd + 3) (.int .i64 (i40 - 1)) <|
            .load (a0.fst, a0.snd + 3) (.int .i64) fun i41 =>
            .bind none (.ite (i41 == 0)
              (.store (a0.fst, a0.snd + 2) (.ptr none) <|
                .done .normal [])
              (.done .normal [])) [] fun x42 =>
            .load (n6, 1) (.int .i64) fun i43 =>
            .load (n6, 0) (.int .i64) fun i44 =>
            .done .ret [.c (.int .i64 (i43)), .c (.int .i64 (i44)), .c (.tt)]))
        (.bind (some 2) (.loop [.c (.int .i64), .c (.int .i64), .c (.sl)] [.c (.int .i64 (0)), .c (.int .i64 (y8.snd.fst)), .c (.sl (y8.snd.snd.fst.fst) (y8.snd.snd.fst.snd.fst) (y8.snd.snd.fst.snd.snd))] fun y45 =>
              .nonnil (y8.fst) fun p46 =>
              .load (p46.fst, p46.snd + 2) (.sl) fun s47 =>
              .ite (decide (y45.fst < (↑s47.snd.fst : Int)))
              (.nonnil (y8.fst) fun p48 =>
                .load (p48.fst, p48.snd + 3) (.ptr) fun q49 =>
                .nonnil (q49) fun p50 =>
                .load p50 (.sl) fun s51 =>
                .nonnil (s51.fst) fun p52 =>
                .guard (((0 : Int) ≤ y45.fst) ∧ ((y45.fst : Int) < (↑s51.snd.fst : Int))) <|
                .load (p52.fst, p52.snd + Int.toNat y45.fst) (.ptr) fun q53 =>
                .nonnil (q53) fun p54 =>
                .load (p54.fst, p54.snd + 1) (.int .i64) fun i55 =>
                .ite (decide (y45.snd.fst < i55))
                (.done (.exit 2) [.c (.int .i64 (y45.fst)), .c (.int .i64 (y45.snd.fst)), .c (.sl (y45.snd.snd.fst.fst) (y45.snd.snd.fst.snd.fst) (y45.snd.snd.fst.snd.snd))])
                (.nonnil (y8.fst) fun p56 =>
                  .load (p56.fst, p56.snd + 3) (.ptr) fun q57 =>
                  .nonnil (q57) fun p58 =>
                  .load p58 (.sl) fun s59 =>
                  .nonnil (s59.fst) fun p60 =>
                  .guard (((0 : Int) ≤ y45.fst) ∧ ((y45.fst : Int) < (↑s59.snd.fst : Int))) <|
                  .load (p60.fst, p60.snd + Int.toNat y45.fst) (.ptr) fun q61 =>
                  .nonnil (q61) fun p62 =>
                  .load (p62.fst, p62.snd + 1) (.int .i64) fun i63 =>
                  .ite (y45.snd.fst == i63)
                  (.nonnil (y8.fst) fun p64 =>
                    .load (p64.fst, p64.snd + 2) (.sl) fun s65 =>
                    .nonnil (s65.fst) fun p66 =>
                    .guard (((0 : Int) ≤ y45.fst) ∧ ((y45.fst : Int) < (↑s65.snd.fst : Int))) <|
                    .load (p66.fst, p66.snd + mulN (Int.toNat y45.fst) 2) (.int .i64) fun i67 =>
                    .load (p66.fst, p66.snd + mulN (Int.toNat y45.fst) 2 + 1) (.int .i64) fun i68 =>
                    .store (n6, 0) (.int .i64 (i67)) <|
                    .store (n6, 1) (.int .i64 (i68)) <|
                    .guard (InK IntKind.u8 y45.fst) <|
                    .alloc ty_uint8 [.int .u8 (y45.fst)] fun n69 =>
                    .append ty_uint8 1 1 [.int .u8 (0)] ((y45.snd.snd.fst.fst), y45.snd.snd.fst.snd.fst, y45.snd.snd.fst.snd.snd) ((some (n69, 0)), 1, 1) fun s70 =>
                    .done (.exit 0) [.c (.sl (s70.fst) (s70.snd.fst) (s70.snd.snd))])
                  (.nonnil (y8.fst) fun p71 =>
                    .load (p71.fst, p71.snd + 3) (.ptr) fun q72 =>
                    .nonnil (q72) fun p73 =>
                    .load p73 (.sl) fun s74 =>
                    .nonnil (s74.fst) fun p75 =>
                    .guard (((0 : Int) ≤ y45.fst) ∧ ((y45.fst : Int) < (↑s74.snd.fst : Int))) <|
                    .load (p75.fst, p75.snd + Int.toNat y45.fst) (.ptr) fun q76 =>
                    .nonnil (q76) fun p77 =>
                    .load (p77.fst, p77.snd + 1) (.int .i64) fun i78 =>
                    .guard (InK IntKind.i64 (i78 + 1)) <|
                    .guard (InK IntKind.i64 (y45.snd.fst - (i78 + 1))) <|
                    .guard (InK IntKind.i64 (y45.fst + 1)) <|
                    .done .normal [.c (.int .i64 (y45.fst + 1)), .c (.int .i64 (y45.snd.fst - (i78 + 1))), .c (.sl (y45.snd.snd.fst.fst) (y45.snd.snd.fst.snd.fst) (y45.snd.snd.fst.snd.snd))])))
              (.done (.exit 2) [.c (.int .i64 (y45.fst)), .c (.int .i64 (y45.snd.fst)), .c (.sl (y45.snd.snd.fst.fst) (y45.snd.snd.fst.snd.fst) (y45.snd.snd.fst.snd.snd))])) [.c (.int .i64), .c (.int .i64), .c (.sl)] fun x79 =>
          .guard (InK IntKind.u8 x79.fst) <|
          .alloc ty_uint8 [.int .u8 (x79.fst)] fun n80 =>
          .append ty_uint8 1 1 [.int .u8 (0)] ((x79.snd.snd.fst.fst), x79.snd.snd.fst.snd.fst, x79.snd.snd.fst.snd.snd) ((some (n80, 0)), 1, 1) fun s81 =>
          .nonnil (y8.fst) fun p82 =>
          .load (p82.fst, p82.snd + 3) (.ptr) fun q83 =>
          .nonnil (q83) fun p84 =>
          .load p84 (.sl) fun s85 =>
          .nonnil (s85.fst) fun p86 =>
          .guard (((0 : Int) ≤ x79.fst) ∧ ((x79.fst : Int) < (↑s85.snd.fst : Int))) <|
          .call fn_mi_isoLoad [.c (.addr a0), .c (.addr (p86.fst, p86.snd + Int.toNat x79.fst)), .c (.tt)] false [.c (.ptr)] fun r87 =>
          .done .normal [.c (.ptr (r87.fst)), .c (.int .i64 (x79.snd.fst)), .c (.sl (s81.fst) (s81.snd.fst) (s81.snd.snd))])) [.c (.sl)] fun x88 =>
    .load (a0.fst, a0.snd + 2) (.ptr) fun q89 =>
    .bind (some 4) (.loop [.c (.int .i64), .c (.ptr)] [.c (.int .i64 (0)), .c (.ptr (q89))] fun y90 =>
        .ite (decide (y90.fst < (↑x88.fst.snd.fst : Int)))
        (.nonnil (y90.snd.fst) fun p91 =>
          .load (p91.fst, p91.snd + 1) (.int .i64) fun i92 =>
          .guard (InK IntKind.i64 (i92 + 1)) <|
          .nonnil (y90.snd.fst) fun p93 =>
          .store (p93.fst, p93.snd + 1) (.int .i64 (i92 + 1)) <|
          .call fn_ni_leaf [.c (.ptr (y90.snd.fst))] false [.c (.bool)] fun r94 =>
          .bind none (.ite (!r94.fst)
            (.nonnil (y90.snd.fst) fun p95 =>
              .load (p95.fst, p95.snd + 3) (.ptr) fun q96 =>
              .nonnil (q96) fun p97 =>
              .load p97 (.sl) fun s98 =>
              .nonnil (x88.fst.fst) fun p99 =>
              .guard (((0 : Int) ≤ y90.fst) ∧ ((y90.fst : Int) < (↑x88.fst.snd.fst : Int))) <|
              .load (p99.fst, p99.snd + Int.toNat y90.fst) (.int .u8) fun i100 =>
              .nonnil (s98.fst) fun p101 =>
              .guard (((0 : Int) ≤ i100) ∧ ((i100 : Int) < (↑s98.snd.fst : Int))) <|
              .load (p101.fst, p101.snd + Int.toNat i100) (.ptr) fun q102 =>
              .done .normal [.c (.ptr (q102))])
            (.done .normal [.c (.ptr (y90.snd.fst))])) [.c (.ptr)] fun x103 =>
          .guard (InK IntKind.i64 (y90.fst + 1)) <|
          .done .normal [.c (.int .i64 (y90.fst + 1)), .c (.ptr (x103.fst))])
        (.done (.exit 4) [])) [] fun x104 =>
    .load (n6, 1) (.int .i64) fun i105 =>
    .call fn_mi_Delete [.c (.addr a0), .c (.int .i64 (i105))] true [.c (.int .i64), .c (.bool)] fun r106 =>
    .ite (r106.snd.fst)
    (.load (n6, 1) (.int .i64) fun i107 =>
      .done .ret [.c (.int .i64 (i107)), .c (.int .i64 (r106.fst)), .c (.tt)])
    (.load (a0.fst, a0.snd + 5) (.int .i64) fun i108 =>
      .load (a0.fst, a0.snd + 4) (.int .i64) fun i109 =>
      .done .ret [.c (.int .i64 (i108)), .c (.int .i64 (i109)), .c (.ff)]))

theorem den_mi_DeleteAt (a0 : PA) (a1 : Int) : denFn Try.prog Try.f64 [.c (.addr a0), .c (.int .i64 a1)] = M_mi_DeleteAt a0 a1 := by kernel_rfl
theorem hc_mi_DeleteAt (a0 : PA) (a1 : Int) {h : H} {R : Value → H → Prop} (hw : wp Try.prog (M_mi_DeleteAt a0 a1) (Ret R) h) : HC Try.prog fn_mi_DeleteAt (List.map AV.val [.c (.addr a0), .c (.int .i64 a1)]).toArray h R :=
  den_calls hmix Try.func64 (of_decide_eq_true rfl) (by rw [den_mi_DeleteAt]; exact hw)

def M_mi_PopMax (a0 : PA) : M :=
  .load (a0.fst, a0.snd + 2) (.ptr) fun q0 =>
  .ite (Option.isNone q0)
  (.load (a0.fst, a0.snd + 5) (.int .i64) fun i1 =>
    .load (a0.fst, a0.snd + 4) (.int .i64) fun i2 =>
    .done .ret [.c (.int .i64 (i1)), .c (.int .i64 (i2)), .c (.ff)])
  (.call fn_mi_isoLoad [.c (.addr a0), .c (.addr (a0.fst, a0.snd + 2)), .c (.tt)] false [.c (.ptr)] fun r3 =>
    .alloc ty_btree_mapPair_int_int [.int .i64 (0), .int .i64 (0)] fun n4 =>
    .bind (some 0) (.loop [.c (.ptr)] [.c (.ptr (r3.fst))] fun y5 =>
        .nonnil (y5.fst) fun p6 =>
        .load (p6.fst, p6.snd + 1) (.int .i64) fun i7 =>
        .guard (InK IntKind.i64 (i7 - 1)) <|
        .nonnil (y5.fst) fun p8 =>
        .store (p8.fst, p8.snd + 1) (.int .i64 (i7 - 1)) <|
        .call fn_ni_leaf [.c (.ptr (y5.fst))] false [.c (.bool)] fun r9 =>
        .ite (r9.fst)
        (.nonnil (y5.fst) fun p10 =>
          .load (p10.fst, p10.snd + 2) (.sl) fun s11 =>
          .nonnil (y5.fst) fun p12 =>
          .load (p12.fst, p12.snd + 2) (.sl) fun s13 =>
          .guard (InK IntKind.i64 ((↑s13.snd.fst : Int) - 1)) <|
          .nonnil (s11.fst) fun p14 =>
          .guard (((0 : Int) ≤ (↑s13.snd.fst : Int) - 1) ∧ (((↑s13.snd.fst : Int) - 1 : Int) < (↑s11.snd.fst : Int))) <|
          .load (p14.fst, p14.snd + mulN ((↑s13.snd.fst : Int) - 1).toNat 2) (.int .i64) fun i15 =>
          .load (p14.fst, p14.snd + mulN ((↑s13.snd.fst : Int) - 1).toNat 2 + 1) (.int .i64) fun i16 =>
          .store (n4, 0) (.int .i64 (i15)) <|
          .store (n4, 1) (.int .i64 (i16)) <|
          .nonnil (y5.fst) fun p17 =>
          .load (p17.fst, p17.snd + 2) (.sl) fun s18 =>
          .load (a0.fst, a0.snd + 6) (.int .i64) fun i19 =>
          .ite ((↑s18.snd.fst : Int) == i19)
          (.done (.exit 0) [])
          (.nonnil (y5.fst) fun p20 =>
            .load (p20.fst, p20.snd + 2) (.sl) fun s21 =>
            .nonnil (y5.fst) fun p22 =>
            .load (p22.fst, p22.snd + 2) (.sl) fun s23 =>
            .guard (InK IntKind.i64 ((↑s23.snd.fst : Int) - 1)) <|
            .load (a0.fst, a0.snd + 4) (.int .i64) fun i24 =>
            .load (a0.fst, a0.snd + 5) (.int .i64) fun i25 =>
            .nonnil (s21.fst) fun p26 =>
            .guard (((0 : Int) ≤ (↑s23.snd.fst : Int) - 1) ∧ (((↑s23.snd.fst : Int) - 1 : Int) < (↑s21.snd.fst : Int))) <|
            .store (p26.fst, p26.snd + mulN ((↑s23.snd.fst : Int) - 1).toNat 2) (.int .i64 (i24)) <|
            .store (p26.fst, p26.snd + mulN ((↑s23.snd.fst : Int) - 1).toNat 2 + 1) (.int .i64 (i25)) <|
            .nonnil (y5.fst) fun p27 =>
            .load (p27.fst, p27.snd + 2) (.sl) fun s28 =>
            .nonnil (y5.fst) fun p29 =>
            .load (p29.fst, p29.snd + 2) (.sl) fun s30 =>
            .guard (InK IntKind.i64 ((↑s30.snd.fst : Int) - 1)) <|
            .guard (((0 : Int) ≤ (↑s30.snd.fst : Int) - 1) ∧ (((↑s30.snd.fst : Int) - 1 : Int) ≤ (↑s28.snd.snd : Int))) <|
            .nonnil (y5.fst) fun p31 =>
            .store (p31.fst, p31.snd + 2) (.sl (slBase s28.fst s28.snd.snd 0 2) (((↑s30.snd.fst : Int) - 1).toNat - 0) (s28.snd.snd - 0)) <|
            .load (a0.fst, a0.snd + 3) (.int .i64) fun i32 =>
            .guard (InK IntKind.i64 (i32 - 1)) <|
            .store (a0.fst, a0.snd + 3) (.int .i64 (i32 - 1)) <|
            .load (a0.fst, a0.snd + 3) (.int .i64) fun i33 =>
            .bind none (.ite (i33 == 0)
              (.store (a0.fst, a0.snd + 2) (.ptr none) <|
                .done .normal [])
              (.done .normal [])) [] fun x34 =>
            .load (n4, 1) (.int .i64) fun i35 =>
            .load (n4, 0) (.int .i64) fun i36 =>
            .done .ret [.c (.int .i64 (i35)), .c (.int .i64 (i36)), .c (.tt)]))
        (.nonnil (y5.fst) fun p37 =>
          .load (p37.fst, p37.snd + 3) (.ptr) fun q38 =>
          .nonnil (q38) fun p39 =>
          .load p39 (.sl) fun s40 =>
          .nonnil (y5.fst) fun p41 =>
          .load (p41.fst, p41.snd + 3) (.ptr) fun q42 =>
          .nonnil (q42) fun p43 =>
          .load p43 (.sl) fun s44 =>
          .guard (InK IntKind.i64 ((↑s44.snd.fst : Int) - 1)) <|
          .nonnil (s40.fst) fun p45 =>
          .guard (((0 : Int) ≤ (↑s44.snd.fst : Int) - 1) ∧ (((↑s44.snd.fst : Int) - 1 : Int) < (↑s40.snd.fst : Int))) <|
          .call fn_mi_isoLoad [.c (.addr a0), .c (.addr (p45.fst, p45.snd + ((↑s44.snd.fst : Int) - 1).toNat)), .c (.tt)] false [.c (.ptr)] fun r46 =>
          .done .normal [.c (.ptr (r46.fst))])) [] fun x47 =>
    .load (a0.fst, a0.snd + 2) (.ptr) fun q48 =>
    .bind (some 2) (.loop [.c (.ptr)] [.c (.ptr (q48))] fun y49 =>
        .nonnil (y49.fst) fun p50 =>
        .load (p50.fst, p50.snd + 1) (.int .i64) fun i51 =>
        .guard (InK IntKind.i64 (i51 + 1)) <|
        .nonnil (y49.fst) fun p52 =>
        .store (p52.fst, p52.snd + 1) (.int .i64 (i51 + 1)) <|
        .call fn_ni_leaf [.c (.ptr (y49.fst))] false [.c (.bool)] fun r53 =>
        .ite (r53.fst)
        (.done (.exit 2) [])
        (.nonnil (y49.fst) fun p54 =>
          .load (p54.fst, p54.snd + 3) (.ptr) fun q55 =>
          .nonnil (q55) fun p56 =>
          .load p56 (.sl) fun s57 =>
          .nonnil (y49.fst) fun p58 =>
          .load (p58.fst, p58.snd + 3) (.ptr) fun q59 =>
          .nonnil (q59) fun p60 =>
          .load p60 (.sl) fun s61 =>
          .guard (InK IntKind.i64 ((↑s61.snd.fst : Int) - 1)) <|
          .nonnil (s57.fst) fun p62 =>
          .guard (((0 : Int) ≤ (↑s61.snd.fst : Int) - 1) ∧ (((↑s61.snd.fst : Int) - 1 : Int) < (↑s57.snd.fst : Int))) <|
          .load (p62.fst, p62.snd + ((↑s61.snd.fst : Int) - 1).toNat) (.ptr) fun q63 =>
          .done .normal [.c (.ptr (q63))])) [] fun x64 =>
    .load (n4, 1) (.int .i64) fun i65 =>
    .call fn_mi_Delete [.c (.addr a0), .c (.int .i64 (i65))] true [.c (.int .i64), .c (.bool)] fun r66 =>
    .ite (r66.snd.fst)
    (.load (n4, 1) (.int .i64) fun i67 =>
      .done .ret [.c (.int .i64 (i67)), .c (.int .i64 (r66.fst)), .c (.tt)])
    (.load (a0.fst, a0.snd + 5) (.int .i64) fun i68 =>
      .load (a0.fst, a0.snd + 4) (.int .i64) fun i69 =>
      .done .ret [.c (.int .i64 (i68)), .c (.int .i64 (i69)), .c (.ff)]))

theorem den_mi_PopMax (a0 : PA) : denFn Try.prog Try.f74 [.c (.addr a0)] = M_mi_PopMax a0 := by kernel_rfl
theorem hc_mi_PopMax (a0 : PA) {h : H} {R : Value → H → Prop} (hw : wp Try.prog (M_mi_PopMax a0) (Ret R) h) : HC Try.prog fn_mi_PopMax (List.map AV.val [.c (.addr a0)]).toArray h R :=
  den_calls hmix Try.func74 (of_decide_eq_true rfl) (by rw [den_mi_PopMax]; exact hw)

def M_mi_PopMin (a0 : PA) : M :=
  .load (a0.fst, a0.snd + 2) (.ptr) fun q0 =>
  .ite (Option.isNone q0)
  (.load (a0.fst, a0.snd + 5) (.int .i64) fun i1 =>
    .load (a0.fst, a0.snd + 4) (.int .i64) fun i2 =>
    .done .ret [.c (.int .i64 (i1)), .c (.int .i64 (i2)), .c (.ff)])
  (.call fn_mi_isoLoad [.c (.addr a0), .c (.addr (a0.fst, a0.snd + 2)), .c (.tt)] false [.c (.ptr)] fun r3 =>
    .alloc ty_btree_mapPair_int_int [.int .i64 (0), .int .i64 (0)] fun n4 =>
    .bind (some 0) (.loop [.c (.ptr)] [.c (.ptr (r3.fst))] fun y5 =>
        .nonnil (y5.fst) fun p6 =>
        .load (p6.fst, p6.snd + 1) (.int .i64) fun i7 =>
        .guard (InK IntKind.i64 (i7 - 1)) <|
        .nonnil (y5.fst) fun p8 =>
        .store (p8.fst, p8.snd + 1) (.int .i64 (i7 - 1)) <|
        .call fn_ni_leaf [.c (.ptr (y5.fst))] false [.c (.bool)] fun r9 =>
        .ite (r9.fst)
        (.nonnil (y5.fst) fun p10 =>
          .load (p10.fst, p10.snd + 2) (.sl) fun s11 =>
          .nonnil (s11.fst) fun p12 =>
          .guard (((0 : Int) ≤ 0) ∧ ((0 : Int) < (↑s11.snd.fst : Int))) <|
          .load (p12.fst, p12.snd) (.int .i64) fun i13 =>
          .load (p12.fst, p12.snd + 1) (.int .i64) fun i14 =>
          .store (n4, 0) (.int .i64 (i13)) <|
          .store (n4, 1) (.int .i64 (i14)) <|
          .nonnil (y5.fst) fun p15 =>
          .load (p15.fst, p15.snd + 2) (.sl) fun s16 =>
          .load (a0.fst, a0.snd + 6) (.int .i64) fun i17 =>
          .ite ((↑s16.snd.fst : Int) == i17)
          (.done (.exit 0) [])
          (.nonnil (y5.fst) fun p18 =>
            .load (p18.fst, p18.snd + 2) (.sl) fun s19 =>
            .nonnil (y5.fst) fun p20 =>
            .load (p20.fst, p20.snd + 2) (.sl) fun s21 =>
            .guard (((0 : Int) ≤ 1) ∧ ((1 : Int) ≤ (↑s21.snd.fst : Int))) <|
            .copy 2 ((slBase s19.fst s19.snd.snd 0 2), s19.snd.fst - 0, s19.snd.snd - 0) ((slBase s21.fst s21.snd.snd 1 2), s21.snd.fst - 1, s21.snd.snd - 1) fun m22 =>
            .nonnil (y5.fst) fun p23 =>
            .load (p23.fst, p23.snd + 2) (.sl) fun s24 =>
            .nonnil (y5.fst) fun p25 =>
            .load (p25.fst, p25.snd + 2) (.sl) fun s26 =>
            .guard (InK IntKind.i64 ((↑s26.snd.fst : Int) - 1)) <|
            .load (a0.fst, a0.snd + 4) (.int .i64) fun i27 =>
            .load (a0.fst, a0.snd + 5) (.int .i64) fun i28 =>
            .nonnil (s24.fst) fun p29 =>
            .guard (((0 : Int) ≤ (↑s26.snd.fst : Int) - 1) ∧ (((↑s26.snd.fst : Int) - 1 : Int) < (↑s24.snd.fst : Int))) <|
            .store (p29.fst, p29.snd + mulN ((↑s26.snd.fst : Int) - 1).toNat 2) (.int .i64 (i27)) <|
            .store (p29.fst, p29.snd + mulN ((↑s26.snd.fst : Int) - 1).toNat 2 + 1) (.int .i64 (i28)) <|
            .nonnil (y5.fst) fun p30 =>
            .load (p30.fst, p30.snd + 2) (.sl) fun s31 =>
            .nonnil (y5.fst) fun p32 =>
            .load (p32.fst, p32.snd + 2) (.sl) fun s33 =>
            .guard (InK IntKind.i64 ((↑s33.snd.fst : Int) - 1)) <|
            .guard (((0 : Int) ≤ (↑s33.snd.fst : Int) - 1) ∧ (((↑s33.snd.fst : Int) - 1 : Int) ≤ (↑s31.snd.snd : Int))) <|
            .nonnil (y5.fst) fun p34 =>
            .store (p34.fst, p34.snd + 2) (.sl (slBase s31.fst s31.snd.snd 0 2) (((↑s33.snd.fst : Int) - 1).toNat - 0) (s31.snd.snd - 0)) <|
            .load (a0.fst, a0.snd + 3) (.int .i64) fun i35 =>
            .guard (InK IntKind.i64 (i35 - 1)) <|
            .store (a0.fst, a0.snd + 3) (.int .i64 (i35 - 1)) <|
            .load (a0.fst, a0.snd + 3) (.int .i64) fun i36 =>
            .bind none (.ite (i36 == 0)
              (.store (a0.fst, a0.snd + 2) (.ptr none) <|
                .done .normal [])
              (.done .normal [])) [] fun x37 =>
            .load (n4, 1) (.int .i64) fun i38 =>
            .load (n4, 0) (.int .i64) fun i39 =>
            .done .ret [.c (.int .i64 (i38)), .c (.int .i64 (i39)), .c (.tt)]))
        (.nonnil (y5.fst) fun p40 =>
          .load (p40.fst, p40.snd + 3) (.ptr) fun q41 =>
          .nonnil (q41) fun p42 =>
          .load p42 (.sl) fun s43 =>
          .nonnil (s43.fst) fun p44 =>
          .guard (((0 : Int) ≤ 0) ∧ ((0 : Int) < (↑s43.snd.fst : Int))) <|
          .call fn_mi_isoLoad [.c (.addr a0), .c (.addr (p44.fst, p44.snd)), .c (.tt)] false [.c (.ptr)] fun r45 =>
          .done .normal [.c (.ptr (r45.fst))])) [] fun x46 =>
    .load (a0.fst, a0.snd + 2) (.ptr) fun q47 =>
    .bind (some 2) (.loop [.c (.ptr)] [.c (.ptr (q47))] fun y48 =>
        .nonnil (y48.fst) fun p49 =>
        .load (p49.fst, p49.snd + 1) (.int .i64) fun i50 =>
        .guard (InK IntKind.i64 (i50 + 1)) <|
        .nonnil (y48.fst) fun p51 =>
        .store (p51.fst, p51.snd + 1) (.int .i64 (i50 + 1)) <|
        .call fn_ni_leaf [.c (.ptr (y48.fst))] false [.c (.bool)] fun r52 =>
        .ite (r52.fst)
        (.done (.exit 2) [])
        (.nonnil (y48.fst) fun p53 =>
          .load (p53.fst, p53.snd + 3) (.ptr) fun q54 =>
          .nonnil (q54) fun p55 =>
          .load p55 (.sl) fun s56 =>
          .nonnil (s56.fst) fun p57 =>
          .guard (((0 : Int) ≤ 0) ∧ ((0 : Int) < (↑s56.snd.fst : Int))) <|
          .load (p57.fst, p57.snd) (.ptr) fun q58 =>
          .done .normal [.c (.ptr (q58))])) [] fun x59 =>
    .load (n4, 1) (.int .i64) fun i60 =>
    .call fn_mi_Delete [.c (.addr a0), .c (.int .i64 (i60))] true [.c (.int .i64), .c (.bool)] fun r61 =>
    .ite (r61.snd.fst)
    (.load (n4, 1) (.int .i64) fun i62 =>
      .done .ret [.c (.int .i64 (i62)), .c (.int .i64 (r61.fst)), .c (.tt)])
    (.load (a0.fst, a0.snd + 5) (.int .i64) fun i63 =>
      .load (a0.fst, a0.snd + 4) (.int .i64) fun i64 =>
      .done .ret [.c (.int .i64 (i63)), .c (.int .i64 (i64)), .c (.ff)]))

theorem den_mi_PopMin (a0 : PA) : denFn Try.prog Try.f75 [.c (.addr a0)] = M_mi_PopMin a0 := by kernel_rfl
theorem hc_mi_PopMin (a0 : PA) {h : H} {R : Value → H → Prop} (hw : wp Try.prog (M_mi_PopMin a0) (Ret R) h) : HC Try.prog fn_mi_PopMin (List.map AV.val [.c (.addr a0)]).toArray h R :=
  den_calls hmix Try.func75 (of_decide_eq_true rfl) (by rw [den_mi_PopMin]; exact hw)

end Go.Proofs.Ytkhpbcckaenmcaa
