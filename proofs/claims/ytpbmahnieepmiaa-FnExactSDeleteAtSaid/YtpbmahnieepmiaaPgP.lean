/-
  Functions of the translation as typed programs, and that each is its function's reading. Written by a program of ours (gen2.py). Conditions: none.
-/
import Derived.Test.YtpbmahnieepmiaaNm
namespace Go.Proofs.Ytpbmahnieepmiaa
open Go
set_option maxRecDepth 100000
set_option linter.unusedVariables false
def M_ms_DeleteAt (a0 : PA) (a1 : Int) : M :=
  .alloc ty_struct [] fun n0 =>
  .bind none (.load (a0.fst, a0.snd + 2) (.ptr) fun q1 =>
    .ite (Option.isNone q1)
    (.done .normal [.c (.tt)])
    (.ite (decide (a1 < 0))
      (.done .normal [.c (.tt)])
      (.load (a0.fst, a0.snd + 3) (.int .i64) fun i2 =>
        .done .normal [.c (.bool (decide (a1 ≥ i2)))]))) [.c (.bool)] fun x3 =>
  .ite (x3.fst)
  (.load (a0.fst, a0.snd + 4) (.int .i64) fun i4 =>
    .there (a0.fst, a0.snd + 4) <|
    .done .ret [.c (.int .i64 (i4)), .agg [], .c (.ff)])
  (.alloc ty_8_uint8 [.int .u8 (0), .int .u8 (0), .int .u8 (0), .int .u8 (0), .int .u8 (0), .int .u8 (0), .int .u8 (0), .int .u8 (0)] fun n5 =>
    .guard (((0 : Int) ≤ 0) ∧ ((0 : Int) ≤ (↑8 : Int))) <|
    .alloc ty_btree_mapPair_int_struct [.int .i64 (0)] fun n6 =>
    .call fn_ms_isoLoad [.c (.addr a0), .c (.addr (a0.fst, a0.snd + 2)), .c (.tt)] false [.c (.ptr)] fun r7 =>
    .bind (some 0) (.loop [.c (.ptr), .c (.int .i64), .c (.sl)] [.c (.ptr (r7.fst)), .c (.int .i64 (a1)), .c (.sl (slBase (some (n5, 0)) 8 0 1) (0) (8))] fun y8 =>
        .nonnil (y8.fst) fun p9 =>
        .load (p9.fst, p9.snd + 1) (.int .i64) fun i10 =>
        .guard (InK IntKind.i64 (i10 - 1)) <|
        .nonnil (y8.fst) fun p11 =>
        .store (p11.fst, p11.snd + 1) (.int .i64 (i10 - 1)) <|
        .call fn_ns_leaf [.c (.ptr (y8.fst))] false [.c (.bool)] fun r12 =>
        .ite (r12.fst)
        (.nonnil (y8.fst) fun p13 =>
          .load (p13.fst, p13.snd + 2) (.sl) fun s14 =>
          .nonnil (s14.fst) fun p15 =>
          .guard (((0 : Int) ≤ y8.snd.fst) ∧ ((y8.snd.fst : Int) < (↑s14.snd.fst : Int))) <|
          .load (p15.fst, p15.snd + Int.toNat y8.snd.fst) (.int .i64) fun i16 =>
          .store (n6, 0) (.int .i64 (i16)) <|
          .nonnil (y8.fst) fun p17 =>
          .load (p17.fst, p17.snd + 2) (.sl) fun s18 =>
          .load (a0.fst, a0.snd + 5) (.int .i64) fun i19 =>
          .ite ((↑s18.snd.fst : Int) == i19)
          (.guard (InK IntKind.u8 y8.snd.fst) <|
            .alloc ty_uint8 [.int .u8 (y8.snd.fst)] fun n20 =>
            .append ty_uint8 1 1 [.int .u8 (0)] ((y8.snd.snd.fst.fst), y8.snd.snd.fst.snd.fst, y8.snd.snd.fst.snd.snd) ((some (n20, 0)), 1, 1) fun s21 =>
            .done (.exit 0) [.c (.sl (s21.fst) (s21.snd.fst) (s21.snd.snd))])
          (.nonnil (y8.fst) fun p22 =>
            .load (p22.fst, p22.snd + 2) (.sl) fun s23 =>
            .guard (((0 : Int) ≤ y8.snd.fst) ∧ ((y8.snd.fst : Int) ≤ (↑s23.snd.fst : Int))) <|
            .nonnil (y8.fst) fun p24 =>
            .load (p24.fst, p24.snd + 2) (.sl) fun s25 =>
            .guard (InK IntKind.i64 (y8.snd.fst + 1)) <|
            .guard (((0 : Int) ≤ y8.snd.fst + 1) ∧ ((y8.snd.fst + 1 : Int) ≤ (↑s25.snd.fst : Int))) <|
            .copy 1 ((slBase s23.fst s23.snd.snd (Int.toNat y8.snd.fst) 1), s23.snd.fst - Int.toNat y8.snd.fst, s23.snd.snd - Int.toNat y8.snd.fst) ((slBase s25.fst s25.snd.snd (y8.snd.fst + 1).toNat 1), s25.snd.fst - (y8.snd.fst + 1).toNat, s25.snd.snd - (y8.snd.fst + 1).toNat) fun m26 =>
            .nonnil (y8.fst) fun p27 =>
            .load (p27.fst, p27.snd + 2) (.sl) fun s28 =>
            .nonnil (y8.fst) fun p29 =>
            .load (p29.fst, p29.snd + 2) (.sl) fun s30 =>
            .guard (InK IntKind.i64 ((↑s30.snd.fst : Int) - 1)) <|
            .load (a0.fst, a0.snd + 4) (.int .i64) fun i31 =>
            .nonnil (s28.fst) fun p32 =>
            .guard (((0 : Int) ≤ (↑s30.snd.fst : Int) - 1) ∧ (((↑s30.snd.fst : Int) - 1 : Int) < (↑s28.snd.fst : Int))) <|
            .store (p32.fst, p32.snd + ((↑s30.snd.fst : Int) - 1).toNat) (.int .i64 (i31)) <|
            .nonnil (y8.fst) fun p33 =>
            .load (p33.fst, p33.snd + 2) (.sl) fun s34 =>
            .nonnil (y8.fst) fun p35 =>
            .load (p35.fst, p35.snd + 2) (.sl) fun s36 =>
            .guard (InK IntKind.i64 ((↑s36.snd.fst : Int) - 1)) <|
            .guard (((0 : Int) ≤ (↑s36.snd.fst : Int) - 1) ∧ (((↑s36.snd.fst : Int) - 1 : Int) ≤ (↑s34.snd.snd : Int))) <|
            .nonnil (y8.fst) fun p37 =>
            .store (p37.fst, p37.snd + 2) (.sl (slBase s34.fst s34.snd.snd 0 1) (((↑s36.snd.fst : Int) - 1).toNat - 0) (s34.snd.snd - 0)) <|
            .load (a0.fst, a0.snd + 3) (.int .i64) fun i38 =>
            .guard (InK IntKind.i64 (i38 - 1)) <|
            .store (a0.fst, a0.snd + 3) (.int .i64 (i38 - 1)) <|
            .load (a0.fst, a0.snd + 3) (.int .i64) fun i39 =>
            .bind none (.ite (i39 == 0)
              (.store (a0.fst, a0.snd + 2) (.ptr none) <|
                .done .normal [])
              (.done .normal [])) [] fun x40 =>
            .load (n6, 0) (.int .i64) fun i41 =>
            .there (n6, 0) <|
            .done .ret [.c (.int .i64 (i41)), .agg [], .c (.tt)]))
        (.bind (some 2) (.loop [.c (.int .i64), .c (.int .i64), .c (.sl)] [.c (.int .i64 (0)), .c (.int .i64 (y8.snd.fst)), .c (.sl (y8.snd.snd.fst.fst) (y8.snd.snd.fst.snd.fst) (y8.snd.snd.fst.snd.snd))] fun y42 =>
              .nonnil (y8.fst) fun p43 =>
              .load (p43.fst, p43.snd + 2) (.sl) fun s44 =>
              .ite (decide (y42.fst < (↑s44.snd.fst : Int)))
              (.nonnil (y8.fst) fun p45 =>
                .load (p45.fst, p45.snd + 3) (.ptr) fun q46 =>
                .nonnil (q46) fun p47 =>
                .load p47 (.sl) fun s48 =>
                .nonnil (s48.fst) fun p49 =>
                .guard (((0 : Int) ≤ y42.fst) ∧ ((y42.fst : Int) < (↑s48.snd.fst : Int))) <|
                .load (p49.fst, p49.snd + Int.toNat y42.fst) (.ptr) fun q50 =>
                .nonnil (q50) fun p51 =>
                .load (p51.fst, p51.snd + 1) (.int .i64) fun i52 =>
                .ite (decide (y42.snd.fst < i52))
                (.done (.exit 2) [.c (.int .i64 (y42.fst)), .c (.int .i64 (y42.snd.fst)), .c (.sl (y42.snd.snd.fst.fst) (y42.snd.snd.fst.snd.fst) (y42.snd.snd.fst.snd.snd))])
                (.nonnil (y8.fst) fun p53 =>
                  .load (p53.fst, p53.snd + 3) (.ptr) fun q54 =>
                  .nonnil (q54) fun p55 =>
                  .load p55 (.sl) fun s56 =>
                  .nonnil (s56.fst) fun p57 =>
                  .guard (((0 : Int) ≤ y42.fst) ∧ ((y42.fst : Int) < (↑s56.snd.fst : Int))) <|
                  .load (p57.fst, p57.snd + Int.toNat y42.fst) (.ptr) fun q58 =>
                  .nonnil (q58) fun p59 =>
                  .load (p59.fst, p59.snd + 1) (.int .i64) fun i60 =>
                  .ite (y42.snd.fst == i60)
                  (.nonnil (y8.fst) fun p61 =>
                    .load (p61.fst, p61.snd + 2) (.sl) fun s62 =>
                    .nonnil (s62.fst) fun p63 =>
                    .guard (((0 : Int) ≤ y42.fst) ∧ ((y42.fst : Int) < (↑s62.snd.fst : Int))) <|
                    .load (p63.fst, p63.snd + Int.toNat y42.fst) (.int .i64) fun i64 =>
                    .store (n6, 0) (.int .i64 (i64)) <|
                    .guard (InK IntKind.u8 y42.fst) <|
                    .alloc ty_uint8 [.int .u8 (y42.fst)] fun n65 =>
                    .append ty_uint8 1 1 [.int .u8 (0)] ((y42.snd.snd.fst.fst), y42.snd.snd.fst.snd.fst, y42.snd.snd.fst.snd.snd) ((some (n65, 0)), 1, 1) fun s66 =>
                    .done (.exit 0) [.c (.sl (s66.fst) (s66.snd.fst) (s66.snd.snd))])
                  (.nonnil (y8.fst) fun p67 =>
                    .load (p67.fst, p67.snd + 3) (.ptr) fun q68 =>
                    .nonnil (q68) fun p69 =>
                    .load p69 (.sl) fun s70 =>
                    .nonnil (s70.fst) fun p71 =>
                    .guard (((0 : Int) ≤ y42.fst) ∧ ((y42.fst : Int) < (↑s70.snd.fst : Int))) <|
                    .load (p71.fst, p71.snd + Int.toNat y42.fst) (.ptr) fun q72 =>
                    .nonnil (q72) fun p73 =>
                    .load (p73.fst, p73.snd + 1) (.int .i64) fun i74 =>
                    .guard (InK IntKind.i64 (i74 + 1)) <|
                    .guard (InK IntKind.i64 (y42.snd.fst - (i74 + 1))) <|
                    .guard (InK IntKind.i64 (y42.fst + 1)) <|
                    .done .normal [.c (.int .i64 (y42.fst + 1)), .c (.int .i64 (y42.snd.fst - (i74 + 1))), .c (.sl (y42.snd.snd.fst.fst) (y42.snd.snd.fst.snd.fst) (y42.snd.snd.fst.snd.snd))])))
              (.done (.exit 2) [.c (.int .i64 (y42.fst)), .c (.int .i64 (y42.snd.fst)), .c (.sl (y42.snd.snd.fst.fst) (y42.snd.snd.fst.snd.fst) (y42.snd.snd.fst.snd.snd))])) [.c (.int .i64), .c (.int .i64), .c (.sl)] fun x75 =>
          .guard (InK IntKind.u8 x75.fst) <|
          .alloc ty_uint8 [.int .u8 (x75.fst)] fun n76 =>
          .append ty_uint8 1 1 [.int .u8 (0)] ((x75.snd.snd.fst.fst), x75.snd.snd.fst.snd.fst, x75.snd.snd.fst.snd.snd) ((some (n76, 0)), 1, 1) fun s77 =>
          .nonnil (y8.fst) fun p78 =>
          .load (p78.fst, p78.snd + 3) (.ptr) fun q79 =>
          .nonnil (q79) fun p80 =>
          .load p80 (.sl) fun s81 =>
          .nonnil (s81.fst) fun p82 =>
          .guard (((0 : Int) ≤ x75.fst) ∧ ((x75.fst : Int) < (↑s81.snd.fst : Int))) <|
          .call fn_ms_isoLoad [.c (.addr a0), .c (.addr (p82.fst, p82.snd + Int.toNat x75.fst)), .c (.tt)] false [.c (.ptr)] fun r83 =>
          .done .normal [.c (.ptr (r83.fst)), .c (.int .i64 (x75.snd.fst)), .c (.sl (s77.fst) (s77.snd.fst) (s77.snd.snd))])) [.c (.sl)] fun x84 =>
    .load (a0.fst, a0.snd + 2) (.ptr) fun q85 =>
    .bind (some 4) (.loop [.c (.int .i64), .c (.ptr)] [.c (.int .i64 (0)), .c (.ptr (q85))] fun y86 =>
        .ite (decide (y86.fst < (↑x84.fst.snd.fst : Int)))
        (.nonnil (y86.snd.fst) fun p87 =>
          .load (p87.fst, p87.snd + 1) (.int .i64) fun i88 =>
          .guard (InK IntKind.i64 (i88 + 1)) <|
          .nonnil (y86.snd.fst) fun p89 =>
          .store (p89.fst, p89.snd + 1) (.int .i64 (i88 + 1)) <|
          .call fn_ns_leaf [.c (.ptr (y86.snd.fst))] false [.c (.bool)] fun r90 =>
          .bind none (.ite (!r90.fst)
            (.nonnil (y86.snd.fst) fun p91 =>
              .load (p91.fst, p91.snd + 3) (.ptr) fun q92 =>
              .nonnil (q92) fun p93 =>
              .load p93 (.sl) fun s94 =>
              .nonnil (x84.fst.fst) fun p95 =>
              .guard (((0 : Int) ≤ y86.fst) ∧ ((y86.fst : Int) < (↑x84.fst.snd.fst : Int))) <|
              .load (p95.fst, p95.snd + Int.toNat y86.fst) (.int .u8) fun i96 =>
              .nonnil (s94.fst) fun p97 =>
              .guard (((0 : Int) ≤ i96) ∧ ((i96 : Int) < (↑s94.snd.fst : Int))) <|
              .load (p97.fst, p97.snd + Int.toNat i96) (.ptr) fun q98 =>
              .done .normal [.c (.ptr (q98))])
            (.done .normal [.c (.ptr (y86.snd.fst))])) [.c (.ptr)] fun x99 =>
          .guard (InK IntKind.i64 (y86.fst + 1)) <|
          .done .normal [.c (.int .i64 (y86.fst + 1)), .c (.ptr (x99.fst))])
        (.done (.exit 4) [])) [] fun x100 =>
    .load (n6, 0) (.int .i64) fun i101 =>
    .call fn_ms_Delete [.c (.addr a0), .c (.int .i64 (i101))] true [.agg [], .c (.bool)] fun r102 =>
    .alloc ty_struct [] fun n103 =>
    .ite (r102.snd.fst)
    (.load (n6, 0) (.int .i64) fun i104 =>
      .done .ret [.c (.int .i64 (i104)), .agg [], .c (.tt)])
    (.load (a0.fst, a0.snd + 4) (.int .i64) fun i105 =>
      .there (a0.fst, a0.snd + 4) <|
      .done .ret [.c (.int .i64 (i105)), .agg [], .c (.ff)]))
theorem den_ms_DeleteAt (a0 : PA) (a1 : Int) : denFn Try.prog Try.f83 [.c (.addr a0), .c (.int .i64 a1)] = M_ms_DeleteAt a0 a1 := by kernel_rfl
theorem hc_ms_DeleteAt (a0 : PA) (a1 : Int) {h : H} {R : Value → H → Prop} (hw : wp Try.prog (M_ms_DeleteAt a0 a1) (Ret R) h) : HC Try.prog fn_ms_DeleteAt (List.map AV.val [.c (.addr a0), .c (.int .i64 a1)]).toArray h R :=
  den_calls hmix Try.func83 (of_decide_eq_true rfl) (by rw [den_ms_DeleteAt]; exact hw)
end Go.Proofs.Ytpbmahnieepmiaa
