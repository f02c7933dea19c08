/-
  Functions of the translation as typed programs, and that each is its function's reading. Written by a program of ours (gen2.py). Conditions: none.
-/
import Derived.Test.YtegnpimlfphncaaNm
namespace Go.Proofs.Ytegnpimlfphncaa
open Go
set_option maxRecDepth 100000
set_option linter.unusedVariables false
def M_tg_DeleteAscend (a0 : PA) (a10 : Int) (a11 : Int) (a2 : Value) : M :=
  .alloc ty_impl_Item [.int .i64 (a10), .int .i64 (a11)] fun n0 =>
  .bind (some 1000) (.call fn_tg_lock [.c (.addr a0), .c (.tt)] false [.c (.bool)] fun r1 =>
    .bind none (.ite (r1.fst)
      (.fail)
      (.done .normal [])) [] fun x2 =>
    .alloc ty_btree_PathHint [.ff, .ff, .ff, .ff, .ff, .ff, .ff, .ff, .int .u8 (0), .int .u8 (0), .int .u8 (0), .int .u8 (0), .int .u8 (0), .int .u8 (0), .int .u8 (0), .int .u8 (0)] fun n3 =>
    .done .normal [.c (.sl none (0) (0)), .c (.addr (n3, 0))]) [.c (.sl), .c (.addr)] fun x4 =>
  .loop [.c (.sl), .c (.addr)] [.c (.sl (x4.fst.fst) (x4.fst.snd.fst) (x4.fst.snd.snd)), .c (.addr x4.snd.fst)] fun y5 =>
    .bind (some 1000) (.load (a0.fst, a0.snd + 2) (.ptr) fun q6 =>
      .ite (Option.isNone q6)
      (.done .ret [])
      (.call fn_tg_isoLoad [.c (.addr a0), .c (.addr (a0.fst, a0.snd + 2)), .c (.tt)] false [.c (.ptr)] fun r7 =>
        .alloc ty_btree_stackItem_pub_greenwood_impl_Item [.ptr (r7.fst), .int .i64 (0)] fun n8 =>
        .append ty_btree_stackItem_pub_greenwood_impl_Item 2 16 [.ptr none, .int .i64 (0)] ((y5.fst.fst), y5.fst.snd.fst, y5.fst.snd.snd) ((some (n8, 0)), 1, 1) fun s9 =>
        .loop [.c (.ptr), .c (.sl)] [.c (.ptr (r7.fst)), .c (.sl (s9.fst) (s9.snd.fst) (s9.snd.snd))] fun y10 =>
          .bind (some 1) (.bind (some 1001) (.load (n0, 0) (.int .i64) fun i11 =>
              .load (n0, 1) (.int .i64) fun i12 =>
              .guard (InK IntKind.i64 ((↑y10.snd.fst.snd.fst : Int) - 1)) <|
              .call fn_tg_find [.c (.addr a0), .c (.ptr (y10.fst)), .agg [.int .i64 (i11), .int .i64 (i12)], .c (.addr y5.snd.fst), .c (.int .i64 ((↑y10.snd.fst.snd.fst : Int) - 1))] true [.c (.int .i64), .c (.bool)] fun r13 =>
              .done .normal [.c (.ptr (y10.fst)), .c (.sl (y10.snd.fst.fst) (y10.snd.fst.snd.fst) (y10.snd.fst.snd.snd)), .c (.bool (r13.snd.fst)), .c (.int .i64 (r13.fst))]) [.c (.ptr), .c (.sl), .c (.bool), .c (.int .i64)] fun x14 =>
            .loop [.c (.ptr), .c (.sl), .c (.bool), .c (.int .i64)] [.c (.ptr (x14.fst)), .c (.sl (x14.snd.fst.fst) (x14.snd.fst.snd.fst) (x14.snd.fst.snd.snd)), .c (.bool (x14.snd.snd.fst)), .c (.int .i64 (x14.snd.snd.snd.fst))] fun y15 =>
              .bind (some 1001) (.nonnil (y15.fst) fun p16 =>
                .load (p16.fst, p16.snd + 3) (.ptr) fun q17 =>
                .bind none (.ite (!Option.isNone q17)
                  (.ite (y15.snd.snd.fst)
                    (.nonnil (y15.fst) fun p18 =>
                      .load (p18.fst, p18.snd + 2) (.sl) fun s19 =>
                      .nonnil (s19.fst) fun p20 =>
                      .guard (((0 : Int) ≤ y15.snd.snd.snd.fst) ∧ ((y15.snd.snd.snd.fst : Int) < (↑s19.snd.fst : Int))) <|
                      .load (p20.fst, p20.snd + mulN (Int.toNat y15.snd.snd.snd.fst) 2) (.int .i64) fun i21 =>
                      .load (p20.fst, p20.snd + mulN (Int.toNat y15.snd.snd.snd.fst) 2 + 1) (.int .i64) fun i22 =>
                      .callv (a2) [.agg [.int .i64 (i21), .int .i64 (i22)]] false [.c (.int .i64)] fun r23 =>
                      .ite (r23.fst == 2)
                      (.nonnil (y15.fst) fun p24 =>
                        .load (p24.fst, p24.snd + 2) (.sl) fun s25 =>
                        .nonnil (s25.fst) fun p26 =>
                        .guard (((0 : Int) ≤ y15.snd.snd.snd.fst) ∧ ((y15.snd.snd.snd.fst : Int) < (↑s25.snd.fst : Int))) <|
                        .load (p26.fst, p26.snd + mulN (Int.toNat y15.snd.snd.snd.fst) 2) (.int .i64) fun i27 =>
                        .load (p26.fst, p26.snd + mulN (Int.toNat y15.snd.snd.snd.fst) 2 + 1) (.int .i64) fun i28 =>
                        .store (n0, 0) (.int .i64 (i27)) <|
                        .store (n0, 1) (.int .i64 (i28)) <|
                        .nonnil (y15.fst) fun p29 =>
                        .load (p29.fst, p29.snd + 2) (.sl) fun s30 =>
                        .nonnil (s30.fst) fun p31 =>
                        .guard (((0 : Int) ≤ y15.snd.snd.snd.fst) ∧ ((y15.snd.snd.snd.fst : Int) < (↑s30.snd.fst : Int))) <|
                        .load (p31.fst, p31.snd + mulN (Int.toNat y15.snd.snd.snd.fst) 2) (.int .i64) fun i32 =>
                        .load (p31.fst, p31.snd + mulN (Int.toNat y15.snd.snd.snd.fst) 2 + 1) (.int .i64) fun i33 =>
                        .call fn_tg_deleteHint [.c (.addr a0), .agg [.int .i64 (i32), .int .i64 (i33)], .c (.addr y5.snd.fst)] true [.agg [.int .i64, .int .i64], .c (.bool)] fun r34 =>
                        .guard (((0 : Int) ≤ 0) ∧ ((0 : Int) ≤ (↑y15.snd.fst.snd.snd : Int))) <|
                        .done (.exit 1000) [.c (.sl (slBase y15.snd.fst.fst y15.snd.fst.snd.snd 0 2) (0) (y15.snd.fst.snd.snd - 0)), .c (.addr y5.snd.fst)])
                      (.ite (r23.fst == 1)
                        (.nonnil (y15.fst) fun p35 =>
                          .load (p35.fst, p35.snd + 3) (.ptr) fun q36 =>
                          .nonnil (q36) fun p37 =>
                          .load p37 (.sl) fun s38 =>
                          .guard (InK IntKind.i64 (y15.snd.snd.snd.fst + 1)) <|
                          .nonnil (s38.fst) fun p39 =>
                          .guard (((0 : Int) ≤ y15.snd.snd.snd.fst + 1) ∧ ((y15.snd.snd.snd.fst + 1 : Int) < (↑s38.snd.fst : Int))) <|
                          .call fn_tg_isoLoad [.c (.addr a0), .c (.addr (p39.fst, p39.snd + (y15.snd.snd.snd.fst + 1).toNat)), .c (.tt)] false [.c (.ptr)] fun r40 =>
                          .guard (InK IntKind.i64 (y15.snd.snd.snd.fst + 1)) <|
                          .alloc ty_btree_stackItem_pub_greenwood_impl_Item [.ptr (r40.fst), .int .i64 (y15.snd.snd.snd.fst + 1)] fun n41 =>
                          .append ty_btree_stackItem_pub_greenwood_impl_Item 2 16 [.ptr none, .int .i64 (0)] ((y15.snd.fst.fst), y15.snd.fst.snd.fst, y15.snd.fst.snd.snd) ((some (n41, 0)), 1, 1) fun s42 =>
                          .bind (some 3) (.loop [.c (.sl), .c (.ptr)] [.c (.sl (s42.fst) (s42.snd.fst) (s42.snd.snd)), .c (.ptr (r40.fst))] fun y43 =>
                              .call fn_ng_leaf [.c (.ptr (y43.snd.fst))] false [.c (.bool)] fun r44 =>
                              .ite (!r44.fst)
                              (.nonnil (y43.snd.fst) fun p45 =>
                                .load (p45.fst, p45.snd + 3) (.ptr) fun q46 =>
                                .nonnil (q46) fun p47 =>
                                .load p47 (.sl) fun s48 =>
                                .nonnil (s48.fst) fun p49 =>
                                .guard (((0 : Int) ≤ 0) ∧ ((0 : Int) < (↑s48.snd.fst : Int))) <|
                                .call fn_tg_isoLoad [.c (.addr a0), .c (.addr (p49.fst, p49.snd)), .c (.tt)] false [.c (.ptr)] fun r50 =>
                                .alloc ty_btree_stackItem_pub_greenwood_impl_Item [.ptr (r50.fst), .int .i64 (0)] fun n51 =>
                                .append ty_btree_stackItem_pub_greenwood_impl_Item 2 16 [.ptr none, .int .i64 (0)] ((y43.fst.fst), y43.fst.snd.fst, y43.fst.snd.snd) ((some (n51, 0)), 1, 1) fun s52 =>
                                .done .normal [.c (.sl (s52.fst) (s52.snd.fst) (s52.snd.snd)), .c (.ptr (r50.fst))])
                              (.done (.exit 3) [.c (.sl (y43.fst.fst) (y43.fst.snd.fst) (y43.fst.snd.snd)), .c (.ptr (y43.snd.fst))])) [.c (.sl), .c (.ptr)] fun x53 =>
                          .done .normal [.c (.int .i64 (0)), .c (.ptr (x53.snd.fst)), .c (.sl (x53.fst.fst) (x53.fst.snd.fst) (x53.fst.snd.snd))])
                        (.done .ret [])))
                    (.nonnil (y15.fst) fun p54 =>
                      .load (p54.fst, p54.snd + 3) (.ptr) fun q55 =>
                      .nonnil (q55) fun p56 =>
                      .load p56 (.sl) fun s57 =>
                      .nonnil (s57.fst) fun p58 =>
                      .guard (((0 : Int) ≤ y15.snd.snd.snd.fst) ∧ ((y15.snd.snd.snd.fst : Int) < (↑s57.snd.fst : Int))) <|
                      .call fn_tg_isoLoad [.c (.addr a0), .c (.addr (p58.fst, p58.snd + Int.toNat y15.snd.snd.snd.fst)), .c (.tt)] false [.c (.ptr)] fun r59 =>
                      .alloc ty_btree_stackItem_pub_greenwood_impl_Item [.ptr (r59.fst), .int .i64 (y15.snd.snd.snd.fst)] fun n60 =>
                      .append ty_btree_stackItem_pub_greenwood_impl_Item 2 16 [.ptr none, .int .i64 (0)] ((y15.snd.fst.fst), y15.snd.fst.snd.fst, y15.snd.fst.snd.snd) ((some (n60, 0)), 1, 1) fun s61 =>
                      .done (.exit 1) [.c (.ptr (r59.fst)), .c (.sl (s61.fst) (s61.snd.fst) (s61.snd.snd))]))
                  (.done .normal [.c (.int .i64 (y15.snd.snd.snd.fst)), .c (.ptr (y15.fst)), .c (.sl (y15.snd.fst.fst) (y15.snd.fst.snd.fst) (y15.snd.fst.snd.snd))])) [.c (.int .i64), .c (.ptr), .c (.sl)] fun x62 =>
                .nonnil (x62.snd.fst) fun p63 =>
                .load (p63.fst, p63.snd + 2) (.sl) fun s64 =>
                .guard (InK IntKind.i64 ((↑s64.snd.fst : Int) - x62.fst)) <|
                .load (a0.fst, a0.snd + 10) (.int .i64) fun i65 =>
                .guard (InK IntKind.i64 ((↑s64.snd.fst : Int) - x62.fst - i65)) <|
                .bind none (.ite (decide ((↑s64.snd.fst : Int) - x62.fst - i65 > 1))
                  (.bind (some 5) (.loop [.c (.int .i64), .c (.int .i64)] [.c (.int .i64 (0)), .c (.int .i64 (0))] fun y66 =>
                        .ite (decide (y66.fst < (↑s64.snd.fst : Int) - x62.fst - i65))
                        (.nonnil (x62.snd.fst) fun p67 =>
                          .load (p67.fst, p67.snd + 2) (.sl) fun s68 =>
                          .guard (InK IntKind.i64 (x62.fst + y66.fst)) <|
                          .nonnil (s68.fst) fun p69 =>
                          .guard (((0 : Int) ≤ x62.fst + y66.fst) ∧ ((x62.fst + y66.fst : Int) < (↑s68.snd.fst : Int))) <|
                          .load (p69.fst, p69.snd + mulN (x62.fst + y66.fst).toNat 2) (.int .i64) fun i70 =>
                          .load (p69.fst, p69.snd + mulN (x62.fst + y66.fst).toNat 2 + 1) (.int .i64) fun i71 =>
                          .callv (a2) [.agg [.int .i64 (i70), .int .i64 (i71)]] false [.c (.int .i64)] fun r72 =>
                          .ite (r72.fst != 2)
                          (.done (.exit 5) [.c (.int .i64 (y66.fst)), .c (.int .i64 (r72.fst))])
                          (.guard (InK IntKind.i64 (y66.fst + 1)) <|
                            .done .normal [.c (.int .i64 (y66.fst + 1)), .c (.int .i64 (r72.fst))]))
                        (.done (.exit 5) [.c (.int .i64 (y66.fst)), .c (.int .i64 (y66.snd.fst))])) [.c (.int .i64), .c (.int .i64)] fun x73 =>
                    .nonnil (x62.snd.fst) fun p74 =>
                    .load (p74.fst, p74.snd + 2) (.sl) fun s75 =>
                    .guard (((0 : Int) ≤ x62.fst) ∧ ((x62.fst : Int) ≤ (↑s75.snd.fst : Int))) <|
                    .nonnil (x62.snd.fst) fun p76 =>
                    .load (p76.fst, p76.snd + 2) (.sl) fun s77 =>
                    .guard (InK IntKind.i64 (x62.fst + x73.fst)) <|
                    .guard (((0 : Int) ≤ x62.fst + x73.fst) ∧ ((x62.fst + x73.fst : Int) ≤ (↑s77.snd.fst : Int))) <|
                    .copy 2 ((slBase s75.fst s75.snd.snd (Int.toNat x62.fst) 2), s75.snd.fst - Int.toNat x62.fst, s75.snd.snd - Int.toNat x62.fst) ((slBase s77.fst s77.snd.snd (x62.fst + x73.fst).toNat 2), s77.snd.fst - (x62.fst + x73.fst).toNat, s77.snd.snd - (x62.fst + x73.fst).toNat) fun m78 =>
                    .nonnil (x62.snd.fst) fun p79 =>
                    .load (p79.fst, p79.snd + 2) (.sl) fun s80 =>
                    .guard (InK IntKind.i64 ((↑s80.snd.fst : Int) - x73.fst)) <|
                    .bind (some 7) (.loop [.c (.int .i64)] [.c (.int .i64 ((↑s80.snd.fst : Int) - x73.fst))] fun y81 =>
                        .nonnil (x62.snd.fst) fun p82 =>
                        .load (p82.fst, p82.snd + 2) (.sl) fun s83 =>
                        .ite (decide (y81.fst < (↑s83.snd.fst : Int)))
                        (.nonnil (x62.snd.fst) fun p84 =>
                          .load (p84.fst, p84.snd + 2) (.sl) fun s85 =>
                          .load (a0.fst, a0.snd + 7) (.int .i64) fun i86 =>
                          .load (a0.fst, a0.snd + 8) (.int .i64) fun i87 =>
                          .nonnil (s85.fst) fun p88 =>
                          .guard (((0 : Int) ≤ y81.fst) ∧ ((y81.fst : Int) < (↑s85.snd.fst : Int))) <|
                          .store (p88.fst, p88.snd + mulN (Int.toNat y81.fst) 2) (.int .i64 (i86)) <|
                          .store (p88.fst, p88.snd + mulN (Int.toNat y81.fst) 2 + 1) (.int .i64 (i87)) <|
                          .guard (InK IntKind.i64 (y81.fst + 1)) <|
                          .done .normal [.c (.int .i64 (y81.fst + 1))])
                        (.done (.exit 7) [])) [] fun x89 =>
                    .nonnil (x62.snd.fst) fun p90 =>
                    .load (p90.fst, p90.snd + 2) (.sl) fun s91 =>
                    .nonnil (x62.snd.fst) fun p92 =>
                    .load (p92.fst, p92.snd + 2) (.sl) fun s93 =>
                    .guard (InK IntKind.i64 ((↑s93.snd.fst : Int) - x73.fst)) <|
                    .guard (((0 : Int) ≤ (↑s93.snd.fst : Int) - x73.fst) ∧ (((↑s93.snd.fst : Int) - x73.fst : Int) ≤ (↑s91.snd.snd : Int))) <|
                    .nonnil (x62.snd.fst) fun p94 =>
                    .store (p94.fst, p94.snd + 2) (.sl (slBase s91.fst s91.snd.snd 0 2) (((↑s93.snd.fst : Int) - x73.fst).toNat - 0) (s91.snd.snd - 0)) <|
                    .bind (some 9) (.loop [.c (.int .i64)] [.c (.int .i64 (0))] fun y95 =>
                        .ite (decide (y95.fst < (↑x62.snd.snd.fst.snd.fst : Int)))
                        (.nonnil (x62.snd.snd.fst.fst) fun p96 =>
                          .guard (((0 : Int) ≤ y95.fst) ∧ ((y95.fst : Int) < (↑x62.snd.snd.fst.snd.fst : Int))) <|
                          .load (p96.fst, p96.snd + mulN (Int.toNat y95.fst) 2) (.ptr) fun q97 =>
                          .nonnil (q97) fun p98 =>
                          .load (p98.fst, p98.snd + 1) (.int .i64) fun i99 =>
                          .guard (InK IntKind.i64 (i99 - x73.fst)) <|
                          .nonnil (q97) fun p100 =>
                          .store (p100.fst, p100.snd + 1) (.int .i64 (i99 - x73.fst)) <|
                          .guard (InK IntKind.i64 (y95.fst + 1)) <|
                          .done .normal [.c (.int .i64 (y95.fst + 1))])
                        (.done (.exit 9) [])) [] fun x101 =>
                    .load (a0.fst, a0.snd + 3) (.int .i64) fun i102 =>
                    .guard (InK IntKind.i64 (i102 - x73.fst)) <|
                    .store (a0.fst, a0.snd + 3) (.int .i64 (i102 - x73.fst)) <|
                    .ite (x73.snd.fst == 0)
                    (.done .ret [])
                    (.bind none (.ite (x73.snd.fst == 1)
                        (.guard (InK IntKind.i64 (x62.fst + 1)) <|
                          .done .normal [.c (.int .i64 (x62.fst + 1))])
                        (.done .normal [.c (.int .i64 (x62.fst))])) [.c (.int .i64)] fun x103 =>
                      .done .normal [.c (.int .i64 (x103.fst))]))
                  (.done .normal [.c (.int .i64 (x62.fst))])) [.c (.int .i64)] fun x104 =>
                .bind (some 11) (.loop [.c (.sl), .c (.int .i64)] [.c (.sl (x62.snd.snd.fst.fst) (x62.snd.snd.fst.snd.fst) (x62.snd.snd.fst.snd.snd)), .c (.int .i64 (x104.fst))] fun y105 =>
                    .nonnil (x62.snd.fst) fun p106 =>
                    .load (p106.fst, p106.snd + 2) (.sl) fun s107 =>
                    .ite (decide (y105.snd.fst < (↑s107.snd.fst : Int)))
                    (.nonnil (x62.snd.fst) fun p108 =>
                      .load (p108.fst, p108.snd + 2) (.sl) fun s109 =>
                      .nonnil (s109.fst) fun p110 =>
                      .guard (((0 : Int) ≤ y105.snd.fst) ∧ ((y105.snd.fst : Int) < (↑s109.snd.fst : Int))) <|
                      .load (p110.fst, p110.snd + mulN (Int.toNat y105.snd.fst) 2) (.int .i64) fun i111 =>
                      .load (p110.fst, p110.snd + mulN (Int.toNat y105.snd.fst) 2 + 1) (.int .i64) fun i112 =>
                      .callv (a2) [.agg [.int .i64 (i111), .int .i64 (i112)]] false [.c (.int .i64)] fun r113 =>
                      .bind none (.ite (r113.fst == 2)
                        (.nonnil (x62.snd.fst) fun p114 =>
                          .load (p114.fst, p114.snd + 2) (.sl) fun s115 =>
                          .load (a0.fst, a0.snd + 10) (.int .i64) fun i116 =>
                          .ite (decide ((↑s115.snd.fst : Int) > i116))
                          (.nonnil (x62.snd.fst) fun p117 =>
                            .load (p117.fst, p117.snd + 2) (.sl) fun s118 =>
                            .guard (((0 : Int) ≤ y105.snd.fst) ∧ ((y105.snd.fst : Int) ≤ (↑s118.snd.fst : Int))) <|
                            .nonnil (x62.snd.fst) fun p119 =>
                            .load (p119.fst, p119.snd + 2) (.sl) fun s120 =>
                            .guard (InK IntKind.i64 (y105.snd.fst + 1)) <|
                            .guard (((0 : Int) ≤ y105.snd.fst + 1) ∧ ((y105.snd.fst + 1 : Int) ≤ (↑s120.snd.fst : Int))) <|
                            .copy 2 ((slBase s118.fst s118.snd.snd (Int.toNat y105.snd.fst) 2), s118.snd.fst - Int.toNat y105.snd.fst, s118.snd.snd - Int.toNat y105.snd.fst) ((slBase s120.fst s120.snd.snd (y105.snd.fst + 1).toNat 2), s120.snd.fst - (y105.snd.fst + 1).toNat, s120.snd.snd - (y105.snd.fst + 1).toNat) fun m121 =>
                            .nonnil (x62.snd.fst) fun p122 =>
                            .load (p122.fst, p122.snd + 2) (.sl) fun s123 =>
                            .nonnil (x62.snd.fst) fun p124 =>
                            .load (p124.fst, p124.snd + 2) (.sl) fun s125 =>
                            .guard (InK IntKind.i64 ((↑s125.snd.fst : Int) - 1)) <|
                            .load (a0.fst, a0.snd + 7) (.int .i64) fun i126 =>
                            .load (a0.fst, a0.snd + 8) (.int .i64) fun i127 =>
                            .nonnil (s123.fst) fun p128 =>
                            .guard (((0 : Int) ≤ (↑s125.snd.fst : Int) - 1) ∧ (((↑s125.snd.fst : Int) - 1 : Int) < (↑s123.snd.fst : Int))) <|
                            .store (p128.fst, p128.snd + mulN ((↑s125.snd.fst : Int) - 1).toNat 2) (.int .i64 (i126)) <|
                            .store (p128.fst, p128.snd + mulN ((↑s125.snd.fst : Int) - 1).toNat 2 + 1) (.int .i64 (i127)) <|
                            .nonnil (x62.snd.fst) fun p129 =>
                            .load (p129.fst, p129.snd + 2) (.sl) fun s130 =>
                            .nonnil (x62.snd.fst) fun p131 =>
                            .load (p131.fst, p131.snd + 2) (.sl) fun s132 =>
                            .guard (InK IntKind.i64 ((↑s132.snd.fst : Int) - 1)) <|
                            .guard (((0 : Int) ≤ (↑s132.snd.fst : Int) - 1) ∧ (((↑s132.snd.fst : Int) - 1 : Int) ≤ (↑s130.snd.snd : Int))) <|
                            .nonnil (x62.snd.fst) fun p133 =>
                            .store (p133.fst, p133.snd + 2) (.sl (slBase s130.fst s130.snd.snd 0 2) (((↑s132.snd.fst : Int) - 1).toNat - 0) (s130.snd.snd - 0)) <|
                            .bind (some 14) (.loop [.c (.int .i64)] [.c (.int .i64 (0))] fun y134 =>
                                .ite (decide (y134.fst < (↑y105.fst.snd.fst : Int)))
                                (.nonnil (y105.fst.fst) fun p135 =>
                                  .guard (((0 : Int) ≤ y134.fst) ∧ ((y134.fst : Int) < (↑y105.fst.snd.fst : Int))) <|
                                  .load (p135.fst, p135.snd + mulN (Int.toNat y134.fst) 2) (.ptr) fun q136 =>
                                  .nonnil (q136) fun p137 =>
                                  .load (p137.fst, p137.snd + 1) (.int .i64) fun i138 =>
                                  .guard (InK IntKind.i64 (i138 - 1)) <|
                                  .nonnil (q136) fun p139 =>
                                  .store (p139.fst, p139.snd + 1) (.int .i64 (i138 - 1)) <|
                                  .guard (InK IntKind.i64 (y134.fst + 1)) <|
                                  .done .normal [.c (.int .i64 (y134.fst + 1))])
                                (.done (.exit 14) [])) [] fun x140 =>
                            .load (a0.fst, a0.snd + 3) (.int .i64) fun i141 =>
                            .guard (InK IntKind.i64 (i141 - 1)) <|
                            .store (a0.fst, a0.snd + 3) (.int .i64 (i141 - 1)) <|
                            .guard (InK IntKind.i64 (y105.snd.fst - 1)) <|
                            .done .normal [.c (.sl (y105.fst.fst) (y105.fst.snd.fst) (y105.fst.snd.snd)), .c (.int .i64 (y105.snd.fst - 1))])
                          (.nonnil (x62.snd.fst) fun p142 =>
                            .load (p142.fst, p142.snd + 2) (.sl) fun s143 =>
                            .nonnil (s143.fst) fun p144 =>
                            .guard (((0 : Int) ≤ y105.snd.fst) ∧ ((y105.snd.fst : Int) < (↑s143.snd.fst : Int))) <|
                            .load (p144.fst, p144.snd + mulN (Int.toNat y105.snd.fst) 2) (.int .i64) fun i145 =>
                            .load (p144.fst, p144.snd + mulN (Int.toNat y105.snd.fst) 2 + 1) (.int .i64) fun i146 =>
                            .store (n0, 0) (.int .i64 (i145)) <|
                            .store (n0, 1) (.int .i64 (i146)) <|
                            .nonnil (x62.snd.fst) fun p147 =>
                            .load (p147.fst, p147.snd + 2) (.sl) fun s148 =>
                            .nonnil (s148.fst) fun p149 =>
                            .guard (((0 : Int) ≤ y105.snd.fst) ∧ ((y105.snd.fst : Int) < (↑s148.snd.fst : Int))) <|
                            .load (p149.fst, p149.snd + mulN (Int.toNat y105.snd.fst) 2) (.int .i64) fun i150 =>
                            .load (p149.fst, p149.snd + mulN (Int.toNat y105.snd.fst) 2 + 1) (.int .i64) fun i151 =>
                            .call fn_tg_deleteHint [.c (.addr a0), .agg [.int .i64 (i150), .int .i64 (i151)], .c (.addr y5.snd.fst)] true [.agg [.int .i64, .int .i64], .c (.bool)] fun r152 =>
                            .guard (((0 : Int) ≤ 0) ∧ ((0 : Int) ≤ (↑y105.fst.snd.snd : Int))) <|
                            .done (.exit 1000) [.c (.sl (slBase y105.fst.fst y105.fst.snd.snd 0 2) (0) (y105.fst.snd.snd - 0)), .c (.addr y5.snd.fst)]))
                        (.ite (r113.fst == 1)
                          (.done .normal [.c (.sl (y105.fst.fst) (y105.fst.snd.fst) (y105.fst.snd.snd)), .c (.int .i64 (y105.snd.fst))])
                          (.done .ret []))) [.c (.sl), .c (.int .i64)] fun x153 =>
                      .guard (InK IntKind.i64 (x153.snd.fst + 1)) <|
                      .done .normal [.c (.sl (x153.fst.fst) (x153.fst.snd.fst) (x153.fst.snd.snd)), .c (.int .i64 (x153.snd.fst + 1))])
                    (.done (.exit 11) [.c (.sl (y105.fst.fst) (y105.fst.snd.fst) (y105.fst.snd.snd))])) [.c (.sl)] fun x154 =>
                .loop [.c (.sl)] [.c (.sl (x154.fst.fst) (x154.fst.snd.fst) (x154.fst.snd.snd))] fun y155 =>
                  .guard (InK IntKind.i64 ((↑y155.fst.snd.fst : Int) - 1)) <|
                  .nonnil (y155.fst.fst) fun p156 =>
                  .guard (((0 : Int) ≤ (↑y155.fst.snd.fst : Int) - 1) ∧ (((↑y155.fst.snd.fst : Int) - 1 : Int) < (↑y155.fst.snd.fst : Int))) <|
                  .load (p156.fst, p156.snd + mulN ((↑y155.fst.snd.fst : Int) - 1).toNat 2 + 1) (.int .i64) fun i157 =>
                  .guard (InK IntKind.i64 ((↑y155.fst.snd.fst : Int) - 1)) <|
                  .guard (((0 : Int) ≤ (↑y155.fst.snd.fst : Int) - 1) ∧ (((↑y155.fst.snd.fst : Int) - 1 : Int) ≤ (↑y155.fst.snd.snd : Int))) <|
                  .ite ((↑(((↑y155.fst.snd.fst : Int) - 1).toNat - 0) : Int) == 0)
                  (.done .ret [])
                  (.guard (InK IntKind.i64 ((↑(((↑y155.fst.snd.fst : Int) - 1).toNat - 0) : Int) - 1)) <|
                    .nonnil (slBase y155.fst.fst y155.fst.snd.snd 0 2) fun p158 =>
                    .guard (((0 : Int) ≤ (↑(((↑y155.fst.snd.fst : Int) - 1).toNat - 0) : Int) - 1) ∧ (((↑(((↑y155.fst.snd.fst : Int) - 1).toNat - 0) : Int) - 1 : Int) < (↑(((↑y155.fst.snd.fst : Int) - 1).toNat - 0) : Int))) <|
                    .load (p158.fst, p158.snd + mulN ((↑(((↑y155.fst.snd.fst : Int) - 1).toNat - 0) : Int) - 1).toNat 2) (.ptr) fun q159 =>
                    .nonnil (q159) fun p160 =>
                    .load (p160.fst, p160.snd + 2) (.sl) fun s161 =>
                    .ite (decide (i157 < (↑s161.snd.fst : Int)))
                    (.done (.exit 1001) [.c (.ptr (q159)), .c (.sl (slBase y155.fst.fst y155.fst.snd.snd 0 2) (((↑y155.fst.snd.fst : Int) - 1).toNat - 0) (y155.fst.snd.snd - 0)), .c (.tt), .c (.int .i64 (i157))])
                    (.done .normal [.c (.sl (slBase y155.fst.fst y155.fst.snd.snd 0 2) (((↑y155.fst.snd.fst : Int) - 1).toNat - 0) (y155.fst.snd.snd - 0))]))) [.c (.ptr), .c (.sl), .c (.bool), .c (.int .i64)] fun x162 =>
              .done .normal [.c (.ptr (x162.fst)), .c (.sl (x162.snd.fst.fst) (x162.snd.fst.snd.fst) (x162.snd.fst.snd.snd)), .c (.bool (x162.snd.snd.fst)), .c (.int .i64 (x162.snd.snd.snd.fst))]) [.c (.ptr), .c (.sl)] fun x163 =>
          .done .normal [.c (.ptr (x163.fst)), .c (.sl (x163.snd.fst.fst) (x163.snd.fst.snd.fst) (x163.snd.fst.snd.snd))])) [.c (.sl), .c (.addr)] fun x164 =>
    .done .normal [.c (.sl (x164.fst.fst) (x164.fst.snd.fst) (x164.fst.snd.snd)), .c (.addr x164.snd.fst)]
theorem den_tg_DeleteAscend (a0 : PA) (a10 : Int) (a11 : Int) (a2 : Value) : denFn Try.prog Try.f23 [.c (.addr a0), .agg [.int .i64 a10, .int .i64 a11], .c (.raw a2)] = M_tg_DeleteAscend a0 a10 a11 a2 := by kernel_rfl
theorem hc_tg_DeleteAscend (a0 : PA) (a10 : Int) (a11 : Int) (a2 : Value) {h : H} {R : Value → H → Prop} (hw : wp Try.prog (M_tg_DeleteAscend a0 a10 a11 a2) (Ret R) h) : HC Try.prog fn_tg_DeleteAscend (List.map AV.val [.c (.addr a0), .agg [.int .i64 a10, .int .i64 a11], .c (.raw a2)]).toArray h R :=
  den_calls hmix Try.func23 (of_decide_eq_true rfl) (by rw [den_tg_DeleteAscend]; exact hw)
end Go.Proofs.Ytegnpimlfphncaa
