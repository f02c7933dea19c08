/-
  Functions of the translation as typed programs, and that each is its function's reading. Written by a program of ours (gen2.py). Conditions: none.
-/
import Derived.Test.YtebiihomlhljkaaNm
namespace Go.Proofs.Ytebiihomlhljkaa
open Go
set_option maxRecDepth 100000
set_option linter.unusedVariables false
def M_tg_DeleteAt (a0 : PA) (a1 : Int) : M :=
  .alloc ty_impl_Item [.int .i64 (0), .int .i64 (0)] fun n0 =>
  .call fn_tg_lock [.c (.addr a0), .c (.tt)] false [.c (.bool)] fun r1 =>
  .bind none (.ite (r1.fst)
    (.fail)
    (.done .normal [])) [] fun x2 =>
  .bind none (.load (a0.fst, a0.snd + 2) (.ptr) fun q3 =>
    .ite (Option.isNone q3)
    (.done .normal [.c (.tt)])
    (.ite (decide (a1 < 0))
      (.done .normal [.c (.tt)])
      (.load (a0.fst, a0.snd + 3) (.int .i64) fun i4 =>
        .done .normal [.c (.bool (decide (a1 ≥ i4)))]))) [.c (.bool)] fun x5 =>
  .ite (x5.fst)
  (.load (a0.fst, a0.snd + 7) (.int .i64) fun i6 =>
    .load (a0.fst, a0.snd + 8) (.int .i64) fun i7 =>
    .store (n0, 0) (.int .i64 (i6)) <|
    .store (n0, 1) (.int .i64 (i7)) <|
    .load (n0, 0) (.int .i64) fun i8 =>
    .load (n0, 1) (.int .i64) fun i9 =>
    .done .ret [.agg [.int .i64 (i8), .int .i64 (i9)], .c (.ff)])
  (.alloc ty_8_uint8 [.int .u8 (0), .int .u8 (0), .int .u8 (0), .int .u8 (0), .int .u8 (0), .int .u8 (0), .int .u8 (0), .int .u8 (0)] fun n10 =>
    .guard (((0 : Int) ≤ 0) ∧ ((0 : Int) ≤ (↑8 : Int))) <|
    .alloc ty_impl_Item [.int .i64 (0), .int .i64 (0)] fun n11 =>
    .call fn_tg_isoLoad [.c (.addr a0), .c (.addr (a0.fst, a0.snd + 2)), .c (.tt)] false [.c (.ptr)] fun r12 =>
    .bind (some 0) (.loop [.c (.ptr), .c (.int .i64), .c (.sl)] [.c (.ptr (r12.fst)), .c (.int .i64 (a1)), .c (.sl (slBase (some (n10, 0)) 8 0 1) (0) (8))] fun y13 =>
        .nonnil (y13.fst) fun p14 =>
        .load (p14.fst, p14.snd + 1) (.int .i64) fun i15 =>
        .guard (InK IntKind.i64 (i15 - 1)) <|
        .nonnil (y13.fst) fun p16 =>
        .store (p16.fst, p16.snd + 1) (.int .i64 (i15 - 1)) <|
        .call fn_ng_leaf [.c (.ptr (y13.fst))] false [.c (.bool)] fun r17 =>
        .ite (r17.fst)
        (.nonnil (y13.fst) fun p18 =>
          .load (p18.fst, p18.snd + 2) (.sl) fun s19 =>
          .nonnil (s19.fst) fun p20 =>
          .guard (((0 : Int) ≤ y13.snd.fst) ∧ ((y13.snd.fst : Int) < (↑s19.snd.fst : Int))) <|
          .load (p20.fst, p20.snd + mulN (Int.toNat y13.snd.fst) 2) (.int .i64) fun i21 =>
          .load (p20.fst, p20.snd + mulN (Int.toNat y13.snd.fst) 2 + 1) (.int .i64) fun i22 =>
          .store (n11, 0) (.int .i64 (i21)) <|
          .store (n11, 1) (.int .i64 (i22)) <|
          .nonnil (y13.fst) fun p23 =>
          .load (p23.fst, p23.snd + 2) (.sl) fun s24 =>
          .load (a0.fst, a0.snd + 10) (.int .i64) fun i25 =>
          .ite ((↑s24.snd.fst : Int) == i25)
          (.guard (InK IntKind.u8 y13.snd.fst) <|
            .alloc ty_uint8 [.int .u8 (y13.snd.fst)] fun n26 =>
            .append ty_uint8 1 1 [.int .u8 (0)] ((y13.snd.snd.fst.fst), y13.snd.snd.fst.snd.fst, y13.snd.snd.fst.snd.snd) ((some (n26, 0)), 1, 1) fun s27 =>
            .done (.exit 0) [.c (.sl (s27.fst) (s27.snd.fst) (s27.snd.snd))])
          (.nonnil (y13.fst) fun p28 =>
            .load (p28.fst, p28.snd + 2) (.sl) fun s29 =>
            .guard (((0 : Int) ≤ y13.snd.fst) ∧ ((y13.snd.fst : Int) ≤ (↑s29.snd.fst : Int))) <|
            .nonnil (y13.fst) fun p30 =>
            .load (p30.fst, p30.snd + 2) (.sl) fun s31 =>
            .guard (InK IntKind.i64 (y13.snd.fst + 1)) <|
            .guard (((0 : Int) ≤ y13.snd.fst + 1) ∧ ((y13.snd.fst + 1 : Int) ≤ (↑s31.snd.fst : Int))) <|
            .copy 2 ((slBase s29.fst s29.snd.snd (Int.toNat y13.snd.fst) 2), s29.snd.fst - Int.toNat y13.snd.fst, s29.snd.snd - Int.toNat y13.snd.fst) ((slBase s31.fst s31.snd.snd (y13.snd.fst + 1).toNat 2), s31.snd.fst - (y13.snd.fst + 1).toNat, s31.snd.snd - (y13.snd.fst + 1).toNat) fun m32 =>
            .nonnil (y13.fst) fun p33 =>
            .load (p33.fst, p33.snd + 2) (.sl) fun s34 =>
            .nonnil (y13.fst) fun p35 =>
            .load (p35.fst, p35.snd + 2) (.sl) fun s36 =>
            .guard (InK IntKind.i64 ((↑s36.snd.fst : Int) - 1)) <|
            .load (a0.fst, a0.snd + 7) (.int .i64) fun i37 =>
            .load (a0.fst, a0.snd + 8) (.int .i64) fun i38 =>
            .nonnil (s34.fst) fun p39 =>
            .guard (((0 : Int) ≤ (↑s36.snd.fst : Int) - 1) ∧ (((↑s36.snd.fst : Int) - 1 : Int) < (↑s34.snd.fst : Int))) <|
            .store (p39.fst, p39.snd + mulN ((↑s36.snd.fst : Int) - 1).toNat 2) (.int .i64 (i37)) <|
            .store (p39.fst, p39.snd + mulN ((↑s36.snd.fst : Int) - 1).toNat 2 + 1) (.int .i64 (i38)) <|
            .nonnil (y13.fst) fun p40 =>
            .load (p40.fst, p40.snd + 2) (.sl) fun s41 =>
            .nonnil (y13.fst) fun p42 =>
            .load (p42.fst, p42.snd + 2) (.sl) fun s43 =>
            .guard (InK IntKind.i64 ((↑s43.snd.fst : Int) - 1)) <|
            .guard (((0 : Int) ≤ (↑s43.snd.fst : Int) - 1) ∧ (((↑s43.snd.fst : Int) - 1 : Int) ≤ (↑s41.snd.snd : Int))) <|
            .nonnil (y13.fst) fun p44 =>
            .store (p44.fst, p44.snd + 2) (.sl (slBase s41.fst s41.snd.snd 0 2) (((↑s43.snd.fst : Int) - 1).toNat - 0) (s41.snd.snd - 0)) <|
            .load (a0.fst, a0.snd + 3) (.int .i64) fun i45 =>
            .guard (InK IntKind.i64 (i45 - 1)) <|
            .store (a0.fst, a0.snd + 3) (.int .i64 (i45 - 1)) <|
            .load (a0.fst, a0.snd + 3) (.int .i64) fun i46 =>
            .bind none (.ite (i46 == 0)
              (.store (a0.fst, a0.snd + 2) (.ptr none) <|
                .done .normal [])
              (.done .normal [])) [] fun x47 =>
            .load (n11, 0) (.int .i64) fun i48 =>
            .load (n11, 1) (.int .i64) fun i49 =>
            .store (n0, 0) (.int .i64 (i48)) <|
            .store (n0, 1) (.int .i64 (i49)) <|
            .load (n0, 0) (.int .i64) fun i50 =>
            .load (n0, 1) (.int .i64) fun i51 =>
            .done .ret [.agg [.int .i64 (i50), .int .i64 (i51)], .c (.tt)]))
        (.bind (some 2) (.loop [.c (.int .i64), .c (.int .i64), .c (.sl)] [.c (.int .i64 (0)), .c (.int .i64 (y13.snd.fst)), .c (.sl (y13.snd.snd.fst.fst) (y13.snd.snd.fst.snd.fst) (y13.snd.snd.fst.snd.snd))] fun y52 =>
              .nonnil (y13.fst) fun p53 =>
              .load (p53.fst, p53.snd + 2) (.sl) fun s54 =>
              .ite (decide (y52.fst < (↑s54.snd.fst : Int)))
              (.nonnil (y13.fst) fun p55 =>
                .load (p55.fst, p55.snd + 3) (.ptr) fun q56 =>
                .nonnil (q56) fun p57 =>
                .load p57 (.sl) fun s58 =>
                .nonnil (s58.fst) fun p59 =>
                .guard (((0 : Int) ≤ y52.fst) ∧ ((y52.fst : Int) < (↑s58.snd.fst : Int))) <|
                .load (p59.fst, p59.snd + Int.toNat y52.fst) (.ptr) fun q60 =>
                .nonnil (q60) fun p61 =>
                .load (p61.fst, p61.snd + 1) (.int .i64) fun i62 =>
                .ite (decide (y52.snd.fst < i62))
                (.done (.exit 2) [.c (.int .i64 (y52.fst)), .c (.int .i64 (y52.snd.fst)), .c (.sl (y52.snd.snd.fst.fst) (y52.snd.snd.fst.snd.fst) (y52.snd.snd.fst.snd.snd))])
                (.nonnil (y13.fst) fun p63 =>
                  .load (p63.fst, p63.snd + 3) (.ptr) fun q64 =>
                  .nonnil (q64) fun p65 =>
                  .load p65 (.sl) fun s66 =>
                  .nonnil (s66.fst) fun p67 =>
                  .guard (((0 : Int) ≤ y52.fst) ∧ ((y52.fst : Int) < (↑s66.snd.fst : Int))) <|
                  .load (p67.fst, p67.snd + Int.toNat y52.fst) (.ptr) fun q68 =>
                  .nonnil (q68) fun p69 =>
                  .load (p69.fst, p69.snd + 1) (.int .i64) fun i70 =>
                  .ite (y52.snd.fst == i70)
                  (.nonnil (y13.fst) fun p71 =>
                    .load (p71.fst, p71.snd + 2) (.sl) fun s72 =>
                    .nonnil (s72.fst) fun p73 =>
                    .guard (((0 : Int) ≤ y52.fst) ∧ ((y52.fst : Int) < (↑s72.snd.fst : Int))) <|
                    .load (p73.fst, p73.snd + mulN (Int.toNat y52.fst) 2) (.int .i64) fun i74 =>
                    .load (p73.fst, p73.snd + mulN (Int.toNat y52.fst) 2 + 1) (.int .i64) fun i75 =>
                    .store (n11, 0) (.int .i64 (i74)) <|
                    .store (n11, 1) (.int .i64 (i75)) <|
                    .guard (InK IntKind.u8 y52.fst) <|
                    .alloc ty_uint8 [.int .u8 (y52.fst)] fun n76 =>
                    .append ty_uint8 1 1 [.int .u8 (0)] ((y52.snd.snd.fst.fst), y52.snd.snd.fst.snd.fst, y52.snd.snd.fst.snd.snd) ((some (n76, 0)), 1, 1) fun s77 =>
                    .done (.exit 0) [.c (.sl (s77.fst) (s77.snd.fst) (s77.snd.snd))])
                  (.nonnil (y13.fst) fun p78 =>
                    .load (p78.fst, p78.snd + 3) (.ptr) fun q79 =>
                    .nonnil (q79) fun p80 =>
                    .load p80 (.sl) fun s81 =>
                    .nonnil (s81.fst) fun p82 =>
                    .guard (((0 : Int) ≤ y52.fst) ∧ ((y52.fst : Int) < (↑s81.snd.fst : Int))) <|
                    .load (p82.fst, p82.snd + Int.toNat y52.fst) (.ptr) fun q83 =>
                    .nonnil (q83) fun p84 =>
                    .load (p84.fst, p84.snd + 1) (.int .i64) fun i85 =>
                    .guard (InK IntKind.i64 (i85 + 1)) <|
                    .guard (InK IntKind.i64 (y52.snd.fst - (i85 + 1))) <|
                    .guard (InK IntKind.i64 (y52.fst + 1)) <|
                    .done .normal [.c (.int .i64 (y52.fst + 1)), .c (.int .i64 (y52.snd.fst - (i85 + 1))), .c (.sl (y52.snd.snd.fst.fst) (y52.snd.snd.fst.snd.fst) (y52.snd.snd.fst.snd.snd))])))
              (.done (.exit 2) [.c (.int .i64 (y52.fst)), .c (.int .i64 (y52.snd.fst)), .c (.sl (y52.snd.snd.fst.fst) (y52.snd.snd.fst.snd.fst) (y52.snd.snd.fst.snd.snd))])) [.c (.int .i64), .c (.int .i64), .c (.sl)] fun x86 =>
          .guard (InK IntKind.u8 x86.fst) <|
          .alloc ty_uint8 [.int .u8 (x86.fst)] fun n87 =>
          .append ty_uint8 1 1 [.int .u8 (0)] ((x86.snd.snd.fst.fst), x86.snd.snd.fst.snd.fst, x86.snd.snd.fst.snd.snd) ((some (n87, 0)), 1, 1) fun s88 =>
          .nonnil (y13.fst) fun p89 =>
          .load (p89.fst, p89.snd + 3) (.ptr) fun q90 =>
          .nonnil (q90) fun p91 =>
          .load p91 (.sl) fun s92 =>
          .nonnil (s92.fst) fun p93 =>
          .guard (((0 : Int) ≤ x86.fst) ∧ ((x86.fst : Int) < (↑s92.snd.fst : Int))) <|
          .call fn_tg_isoLoad [.c (.addr a0), .c (.addr (p93.fst, p93.snd + Int.toNat x86.fst)), .c (.tt)] false [.c (.ptr)] fun r94 =>
          .done .normal [.c (.ptr (r94.fst)), .c (.int .i64 (x86.snd.fst)), .c (.sl (s88.fst) (s88.snd.fst) (s88.snd.snd))])) [.c (.sl)] fun x95 =>
    .alloc ty_btree_PathHint [.ff, .ff, .ff, .ff, .ff, .ff, .ff, .ff, .int .u8 (0), .int .u8 (0), .int .u8 (0), .int .u8 (0), .int .u8 (0), .int .u8 (0), .int .u8 (0), .int .u8 (0)] fun n96 =>
    .load (a0.fst, a0.snd + 2) (.ptr) fun q97 =>
    .bind (some 4) (.loop [.c (.int .i64), .c (.ptr)] [.c (.int .i64 (0)), .c (.ptr (q97))] fun y98 =>
        .ite (decide (y98.fst < (↑x95.fst.snd.fst : Int)))
        (.bind none (.ite (decide (y98.fst < 8))
            (.nonnil (x95.fst.fst) fun p99 =>
              .guard (((0 : Int) ≤ y98.fst) ∧ ((y98.fst : Int) < (↑x95.fst.snd.fst : Int))) <|
              .load (p99.fst, p99.snd + Int.toNat y98.fst) (.int .u8) fun i100 =>
              .guard (((0 : Int) ≤ y98.fst) ∧ ((y98.fst : Int) < (↑8 : Int))) <|
              .store (n96, 8 + Int.toNat y98.fst) (.int .u8 (i100)) <|
              .guard (((0 : Int) ≤ y98.fst) ∧ ((y98.fst : Int) < (↑8 : Int))) <|
              .store (n96, 0 + Int.toNat y98.fst) (.tt) <|
              .done .normal [])
            (.done .normal [])) [] fun x101 =>
          .nonnil (y98.snd.fst) fun p102 =>
          .load (p102.fst, p102.snd + 1) (.int .i64) fun i103 =>
          .guard (InK IntKind.i64 (i103 + 1)) <|
          .nonnil (y98.snd.fst) fun p104 =>
          .store (p104.fst, p104.snd + 1) (.int .i64 (i103 + 1)) <|
          .call fn_ng_leaf [.c (.ptr (y98.snd.fst))] false [.c (.bool)] fun r105 =>
          .bind none (.ite (!r105.fst)
            (.nonnil (y98.snd.fst) fun p106 =>
              .load (p106.fst, p106.snd + 3) (.ptr) fun q107 =>
              .nonnil (q107) fun p108 =>
              .load p108 (.sl) fun s109 =>
              .nonnil (x95.fst.fst) fun p110 =>
              .guard (((0 : Int) ≤ y98.fst) ∧ ((y98.fst : Int) < (↑x95.fst.snd.fst : Int))) <|
              .load (p110.fst, p110.snd + Int.toNat y98.fst) (.int .u8) fun i111 =>
              .nonnil (s109.fst) fun p112 =>
              .guard (((0 : Int) ≤ i111) ∧ ((i111 : Int) < (↑s109.snd.fst : Int))) <|
              .load (p112.fst, p112.snd + Int.toNat i111) (.ptr) fun q113 =>
              .done .normal [.c (.ptr (q113))])
            (.done .normal [.c (.ptr (y98.snd.fst))])) [.c (.ptr)] fun x114 =>
          .guard (InK IntKind.i64 (y98.fst + 1)) <|
          .done .normal [.c (.int .i64 (y98.fst + 1)), .c (.ptr (x114.fst))])
        (.done (.exit 4) [])) [] fun x115 =>
    .load (n11, 0) (.int .i64) fun i116 =>
    .load (n11, 1) (.int .i64) fun i117 =>
    .call fn_tg_deleteHint [.c (.addr a0), .agg [.int .i64 (i116), .int .i64 (i117)], .c (.addr (n96, 0))] true [.agg [.int .i64, .int .i64], .c (.bool)] fun r118 =>
    .store (n0, 0) (.int .i64 (r118.fst.fst)) <|
    .store (n0, 1) (.int .i64 (r118.fst.snd.fst)) <|
    .load (n0, 0) (.int .i64) fun i119 =>
    .load (n0, 1) (.int .i64) fun i120 =>
    .done .ret [.agg [.int .i64 (i119), .int .i64 (i120)], .c (.bool (r118.snd.fst))])
theorem den_tg_DeleteAt (a0 : PA) (a1 : Int) : denFn Try.prog Try.f69 [.c (.addr a0), .c (.int .i64 a1)] = M_tg_DeleteAt a0 a1 := by kernel_rfl
theorem hc_tg_DeleteAt (a0 : PA) (a1 : Int) {h : H} {R : Value → H → Prop} (hw : wp Try.prog (M_tg_DeleteAt a0 a1) (Ret R) h) : HC Try.prog fn_tg_DeleteAt (List.map AV.val [.c (.addr a0), .c (.int .i64 a1)]).toArray h R :=
  den_calls hmix Try.func69 (of_decide_eq_true rfl) (by rw [den_tg_DeleteAt]; exact hw)
def M_tg_PopMax (a0 : PA) : M :=
  .alloc ty_impl_Item [.int .i64 (0), .int .i64 (0)] fun n0 =>
  .call fn_tg_lock [.c (.addr a0), .c (.tt)] false [.c (.bool)] fun r1 =>
  .bind none (.ite (r1.fst)
    (.fail)
    (.done .normal [])) [] fun x2 =>
  .load (a0.fst, a0.snd + 2) (.ptr) fun q3 =>
  .ite (Option.isNone q3)
  (.load (a0.fst, a0.snd + 7) (.int .i64) fun i4 =>
    .load (a0.fst, a0.snd + 8) (.int .i64) fun i5 =>
    .store (n0, 0) (.int .i64 (i4)) <|
    .store (n0, 1) (.int .i64 (i5)) <|
    .load (n0, 0) (.int .i64) fun i6 =>
    .load (n0, 1) (.int .i64) fun i7 =>
    .done .ret [.agg [.int .i64 (i6), .int .i64 (i7)], .c (.ff)])
  (.call fn_tg_isoLoad [.c (.addr a0), .c (.addr (a0.fst, a0.snd + 2)), .c (.tt)] false [.c (.ptr)] fun r8 =>
    .alloc ty_impl_Item [.int .i64 (0), .int .i64 (0)] fun n9 =>
    .bind (some 0) (.loop [.c (.ptr)] [.c (.ptr (r8.fst))] fun y10 =>
        .nonnil (y10.fst) fun p11 =>
        .load (p11.fst, p11.snd + 1) (.int .i64) fun i12 =>
        .guard (InK IntKind.i64 (i12 - 1)) <|
        .nonnil (y10.fst) fun p13 =>
        .store (p13.fst, p13.snd + 1) (.int .i64 (i12 - 1)) <|
        .call fn_ng_leaf [.c (.ptr (y10.fst))] false [.c (.bool)] fun r14 =>
        .ite (r14.fst)
        (.nonnil (y10.fst) fun p15 =>
          .load (p15.fst, p15.snd + 2) (.sl) fun s16 =>
          .nonnil (y10.fst) fun p17 =>
          .load (p17.fst, p17.snd + 2) (.sl) fun s18 =>
          .guard (InK IntKind.i64 ((↑s18.snd.fst : Int) - 1)) <|
          .nonnil (s16.fst) fun p19 =>
          .guard (((0 : Int) ≤ (↑s18.snd.fst : Int) - 1) ∧ (((↑s18.snd.fst : Int) - 1 : Int) < (↑s16.snd.fst : Int))) <|
          .load (p19.fst, p19.snd + mulN ((↑s18.snd.fst : Int) - 1).toNat 2) (.int .i64) fun i20 =>
          .load (p19.fst, p19.snd + mulN ((↑s18.snd.fst : Int) - 1).toNat 2 + 1) (.int .i64) fun i21 =>
          .store (n9, 0) (.int .i64 (i20)) <|
          .store (n9, 1) (.int .i64 (i21)) <|
          .nonnil (y10.fst) fun p22 =>
          .load (p22.fst, p22.snd + 2) (.sl) fun s23 =>
          .load (a0.fst, a0.snd + 10) (.int .i64) fun i24 =>
          .ite ((↑s23.snd.fst : Int) == i24)
          (.done (.exit 0) [])
          (.nonnil (y10.fst) fun p25 =>
            .load (p25.fst, p25.snd + 2) (.sl) fun s26 =>
            .nonnil (y10.fst) fun p27 =>
            .load (p27.fst, p27.snd + 2) (.sl) fun s28 =>
            .guard (InK IntKind.i64 ((↑s28.snd.fst : Int) - 1)) <|
            .load (a0.fst, a0.snd + 7) (.int .i64) fun i29 =>
            .load (a0.fst, a0.snd + 8) (.int .i64) fun i30 =>
            .nonnil (s26.fst) fun p31 =>
            .guard (((0 : Int) ≤ (↑s28.snd.fst : Int) - 1) ∧ (((↑s28.snd.fst : Int) - 1 : Int) < (↑s26.snd.fst : Int))) <|
            .store (p31.fst, p31.snd + mulN ((↑s28.snd.fst : Int) - 1).toNat 2) (.int .i64 (i29)) <|
            .store (p31.fst, p31.snd + mulN ((↑s28.snd.fst : Int) - 1).toNat 2 + 1) (.int .i64 (i30)) <|
            .nonnil (y10.fst) fun p32 =>
            .load (p32.fst, p32.snd + 2) (.sl) fun s33 =>
            .nonnil (y10.fst) fun p34 =>
            .load (p34.fst, p34.snd + 2) (.sl) fun s35 =>
            .guard (InK IntKind.i64 ((↑s35.snd.fst : Int) - 1)) <|
            .guard (((0 : Int) ≤ (↑s35.snd.fst : Int) - 1) ∧ (((↑s35.snd.fst : Int) - 1 : Int) ≤ (↑s33.snd.snd : Int))) <|
            .nonnil (y10.fst) fun p36 =>
            .store (p36.fst, p36.snd + 2) (.sl (slBase s33.fst s33.snd.snd 0 2) (((↑s35.snd.fst : Int) - 1).toNat - 0) (s33.snd.snd - 0)) <|
            .load (a0.fst, a0.snd + 3) (.int .i64) fun i37 =>
            .guard (InK IntKind.i64 (i37 - 1)) <|
            .store (a0.fst, a0.snd + 3) (.int .i64 (i37 - 1)) <|
            .load (a0.fst, a0.snd + 3) (.int .i64) fun i38 =>
            .bind none (.ite (i38 == 0)
              (.store (a0.fst, a0.snd + 2) (.ptr none) <|
                .done .normal [])
              (.done .normal [])) [] fun x39 =>
            .load (n9, 0) (.int .i64) fun i40 =>
            .load (n9, 1) (.int .i64) fun i41 =>
            .store (n0, 0) (.int .i64 (i40)) <|
            .store (n0, 1) (.int .i64 (i41)) <|
            .load (n0, 0) (.int .i64) fun i42 =>
            .load (n0, 1) (.int .i64) fun i43 =>
            .done .ret [.agg [.int .i64 (i42), .int .i64 (i43)], .c (.tt)]))
        (.nonnil (y10.fst) fun p44 =>
          .load (p44.fst, p44.snd + 3) (.ptr) fun q45 =>
          .nonnil (q45) fun p46 =>
          .load p46 (.sl) fun s47 =>
          .nonnil (y10.fst) fun p48 =>
          .load (p48.fst, p48.snd + 3) (.ptr) fun q49 =>
          .nonnil (q49) fun p50 =>
          .load p50 (.sl) fun s51 =>
          .guard (InK IntKind.i64 ((↑s51.snd.fst : Int) - 1)) <|
          .nonnil (s47.fst) fun p52 =>
          .guard (((0 : Int) ≤ (↑s51.snd.fst : Int) - 1) ∧ (((↑s51.snd.fst : Int) - 1 : Int) < (↑s47.snd.fst : Int))) <|
          .call fn_tg_isoLoad [.c (.addr a0), .c (.addr (p52.fst, p52.snd + ((↑s51.snd.fst : Int) - 1).toNat)), .c (.tt)] false [.c (.ptr)] fun r53 =>
          .done .normal [.c (.ptr (r53.fst))])) [] fun x54 =>
    .load (a0.fst, a0.snd + 2) (.ptr) fun q55 =>
    .bind (some 2) (.loop [.c (.ptr)] [.c (.ptr (q55))] fun y56 =>
        .nonnil (y56.fst) fun p57 =>
        .load (p57.fst, p57.snd + 1) (.int .i64) fun i58 =>
        .guard (InK IntKind.i64 (i58 + 1)) <|
        .nonnil (y56.fst) fun p59 =>
        .store (p59.fst, p59.snd + 1) (.int .i64 (i58 + 1)) <|
        .call fn_ng_leaf [.c (.ptr (y56.fst))] false [.c (.bool)] fun r60 =>
        .ite (r60.fst)
        (.done (.exit 2) [])
        (.nonnil (y56.fst) fun p61 =>
          .load (p61.fst, p61.snd + 3) (.ptr) fun q62 =>
          .nonnil (q62) fun p63 =>
          .load p63 (.sl) fun s64 =>
          .nonnil (y56.fst) fun p65 =>
          .load (p65.fst, p65.snd + 3) (.ptr) fun q66 =>
          .nonnil (q66) fun p67 =>
          .load p67 (.sl) fun s68 =>
          .guard (InK IntKind.i64 ((↑s68.snd.fst : Int) - 1)) <|
          .nonnil (s64.fst) fun p69 =>
          .guard (((0 : Int) ≤ (↑s68.snd.fst : Int) - 1) ∧ (((↑s68.snd.fst : Int) - 1 : Int) < (↑s64.snd.fst : Int))) <|
          .load (p69.fst, p69.snd + ((↑s68.snd.fst : Int) - 1).toNat) (.ptr) fun q70 =>
          .done .normal [.c (.ptr (q70))])) [] fun x71 =>
    .load (n9, 0) (.int .i64) fun i72 =>
    .load (n9, 1) (.int .i64) fun i73 =>
    .call fn_tg_deleteHint [.c (.addr a0), .agg [.int .i64 (i72), .int .i64 (i73)], .c (.ptr none)] true [.agg [.int .i64, .int .i64], .c (.bool)] fun r74 =>
    .store (n0, 0) (.int .i64 (r74.fst.fst)) <|
    .store (n0, 1) (.int .i64 (r74.fst.snd.fst)) <|
    .load (n0, 0) (.int .i64) fun i75 =>
    .load (n0, 1) (.int .i64) fun i76 =>
    .done .ret [.agg [.int .i64 (i75), .int .i64 (i76)], .c (.bool (r74.snd.fst))])
theorem den_tg_PopMax (a0 : PA) : denFn Try.prog Try.f101 [.c (.addr a0)] = M_tg_PopMax a0 := by kernel_rfl
theorem hc_tg_PopMax (a0 : PA) {h : H} {R : Value → H → Prop} (hw : wp Try.prog (M_tg_PopMax a0) (Ret R) h) : HC Try.prog fn_tg_PopMax (List.map AV.val [.c (.addr a0)]).toArray h R :=
  den_calls hmix Try.func101 (of_decide_eq_true rfl) (by rw [den_tg_PopMax]; exact hw)
def M_tg_PopMin (a0 : PA) : M :=
  .alloc ty_impl_Item [.int .i64 (0), .int .i64 (0)] fun n0 =>
  .call fn_tg_lock [.c (.addr a0), .c (.tt)] false [.c (.bool)] fun r1 =>
  .bind none (.ite (r1.fst)
    (.fail)
    (.done .normal [])) [] fun x2 =>
  .load (a0.fst, a0.snd + 2) (.ptr) fun q3 =>
  .ite (Option.isNone q3)
  (.load (a0.fst, a0.snd + 7) (.int .i64) fun i4 =>
    .load (a0.fst, a0.snd + 8) (.int .i64) fun i5 =>
    .store (n0, 0) (.int .i64 (i4)) <|
    .store (n0, 1) (.int .i64 (i5)) <|
    .load (n0, 0) (.int .i64) fun i6 =>
    .load (n0, 1) (.int .i64) fun i7 =>
    .done .ret [.agg [.int .i64 (i6), .int .i64 (i7)], .c (.ff)])
  (.call fn_tg_isoLoad [.c (.addr a0), .c (.addr (a0.fst, a0.snd + 2)), .c (.tt)] false [.c (.ptr)] fun r8 =>
    .alloc ty_impl_Item [.int .i64 (0), .int .i64 (0)] fun n9 =>
    .bind (some 0) (.loop [.c (.ptr)] [.c (.ptr (r8.fst))] fun y10 =>
        .nonnil (y10.fst) fun p11 =>
        .load (p11.fst, p11.snd + 1) (.int .i64) fun i12 =>
        .guard (InK IntKind.i64 (i12 - 1)) <|
        .nonnil (y10.fst) fun p13 =>
        .store (p13.fst, p13.snd + 1) (.int .i64 (i12 - 1)) <|
        .call fn_ng_leaf [.c (.ptr (y10.fst))] false [.c (.bool)] fun r14 =>
        .ite (r14.fst)
        (.nonnil (y10.fst) fun p15 =>
          .load (p15.fst, p15.snd + 2) (.sl) fun s16 =>
          .nonnil (s16.fst) fun p17 =>
          .guard (((0 : Int) ≤ 0) ∧ ((0 : Int) < (↑s16.snd.fst : Int))) <|
          .load (p17.fst, p17.snd) (.int .i64) fun i18 =>
          .load (p17.fst, p17.snd + 1) (.int .i64) fun i19 =>
          .store (n9, 0) (.int .i64 (i18)) <|
          .store (n9, 1) (.int .i64 (i19)) <|
          .nonnil (y10.fst) fun p20 =>
          .load (p20.fst, p20.snd + 2) (.sl) fun s21 =>
          .load (a0.fst, a0.snd + 10) (.int .i64) fun i22 =>
          .ite ((↑s21.snd.fst : Int) == i22)
          (.done (.exit 0) [])
          (.nonnil (y10.fst) fun p23 =>
            .load (p23.fst, p23.snd + 2) (.sl) fun s24 =>
            .nonnil (y10.fst) fun p25 =>
            .load (p25.fst, p25.snd + 2) (.sl) fun s26 =>
            .guard (((0 : Int) ≤ 1) ∧ ((1 : Int) ≤ (↑s26.snd.fst : Int))) <|
            .copy 2 ((slBase s24.fst s24.snd.snd 0 2), s24.snd.fst - 0, s24.snd.snd - 0) ((slBase s26.fst s26.snd.snd 1 2), s26.snd.fst - 1, s26.snd.snd - 1) fun m27 =>
            .nonnil (y10.fst) fun p28 =>
            .load (p28.fst, p28.snd + 2) (.sl) fun s29 =>
            .nonnil (y10.fst) fun p30 =>
            .load (p30.fst, p30.snd + 2) (.sl) fun s31 =>
            .guard (InK IntKind.i64 ((↑s31.snd.fst : Int) - 1)) <|
            .load (a0.fst, a0.snd + 7) (.int .i64) fun i32 =>
            .load (a0.fst, a0.snd + 8) (.int .i64) fun i33 =>
            .nonnil (s29.fst) fun p34 =>
            .guard (((0 : Int) ≤ (↑s31.snd.fst : Int) - 1) ∧ (((↑s31.snd.fst : Int) - 1 : Int) < (↑s29.snd.fst : Int))) <|
            .store (p34.fst, p34.snd + mulN ((↑s31.snd.fst : Int) - 1).toNat 2) (.int .i64 (i32)) <|
            .store (p34.fst, p34.snd + mulN ((↑s31.snd.fst : Int) - 1).toNat 2 + 1) (.int .i64 (i33)) <|
            .nonnil (y10.fst) fun p35 =>
            .load (p35.fst, p35.snd + 2) (.sl) fun s36 =>
            .nonnil (y10.fst) fun p37 =>
            .load (p37.fst, p37.snd + 2) (.sl) fun s38 =>
            .guard (InK IntKind.i64 ((↑s38.snd.fst : Int) - 1)) <|
            .guard (((0 : Int) ≤ (↑s38.snd.fst : Int) - 1) ∧ (((↑s38.snd.fst : Int) - 1 : Int) ≤ (↑s36.snd.snd : Int))) <|
            .nonnil (y10.fst) fun p39 =>
            .store (p39.fst, p39.snd + 2) (.sl (slBase s36.fst s36.snd.snd 0 2) (((↑s38.snd.fst : Int) - 1).toNat - 0) (s36.snd.snd - 0)) <|
            .load (a0.fst, a0.snd + 3) (.int .i64) fun i40 =>
            .guard (InK IntKind.i64 (i40 - 1)) <|
            .store (a0.fst, a0.snd + 3) (.int .i64 (i40 - 1)) <|
            .load (a0.fst, a0.snd + 3) (.int .i64) fun i41 =>
            .bind none (.ite (i41 == 0)
              (.store (a0.fst, a0.snd + 2) (.ptr none) <|
                .done .normal [])
              (.done .normal [])) [] fun x42 =>
            .load (n9, 0) (.int .i64) fun i43 =>
            .load (n9, 1) (.int .i64) fun i44 =>
            .store (n0, 0) (.int .i64 (i43)) <|
            .store (n0, 1) (.int .i64 (i44)) <|
            .load (n0, 0) (.int .i64) fun i45 =>
            .load (n0, 1) (.int .i64) fun i46 =>
            .done .ret [.agg [.int .i64 (i45), .int .i64 (i46)], .c (.tt)]))
        (.nonnil (y10.fst) fun p47 =>
          .load (p47.fst, p47.snd + 3) (.ptr) fun q48 =>
          .nonnil (q48) fun p49 =>
          .load p49 (.sl) fun s50 =>
          .nonnil (s50.fst) fun p51 =>
          .guard (((0 : Int) ≤ 0) ∧ ((0 : Int) < (↑s50.snd.fst : Int))) <|
          .call fn_tg_isoLoad [.c (.addr a0), .c (.addr (p51.fst, p51.snd)), .c (.tt)] false [.c (.ptr)] fun r52 =>
          .done .normal [.c (.ptr (r52.fst))])) [] fun x53 =>
    .load (a0.fst, a0.snd + 2) (.ptr) fun q54 =>
    .bind (some 2) (.loop [.c (.ptr)] [.c (.ptr (q54))] fun y55 =>
        .nonnil (y55.fst) fun p56 =>
        .load (p56.fst, p56.snd + 1) (.int .i64) fun i57 =>
        .guard (InK IntKind.i64 (i57 + 1)) <|
        .nonnil (y55.fst) fun p58 =>
        .store (p58.fst, p58.snd + 1) (.int .i64 (i57 + 1)) <|
        .call fn_ng_leaf [.c (.ptr (y55.fst))] false [.c (.bool)] fun r59 =>
        .ite (r59.fst)
        (.done (.exit 2) [])
        (.nonnil (y55.fst) fun p60 =>
          .load (p60.fst, p60.snd + 3) (.ptr) fun q61 =>
          .nonnil (q61) fun p62 =>
          .load p62 (.sl) fun s63 =>
          .nonnil (s63.fst) fun p64 =>
          .guard (((0 : Int) ≤ 0) ∧ ((0 : Int) < (↑s63.snd.fst : Int))) <|
          .load (p64.fst, p64.snd) (.ptr) fun q65 =>
          .done .normal [.c (.ptr (q65))])) [] fun x66 =>
    .load (n9, 0) (.int .i64) fun i67 =>
    .load (n9, 1) (.int .i64) fun i68 =>
    .call fn_tg_deleteHint [.c (.addr a0), .agg [.int .i64 (i67), .int .i64 (i68)], .c (.ptr none)] true [.agg [.int .i64, .int .i64], .c (.bool)] fun r69 =>
    .store (n0, 0) (.int .i64 (r69.fst.fst)) <|
    .store (n0, 1) (.int .i64 (r69.fst.snd.fst)) <|
    .load (n0, 0) (.int .i64) fun i70 =>
    .load (n0, 1) (.int .i64) fun i71 =>
    .done .ret [.agg [.int .i64 (i70), .int .i64 (i71)], .c (.bool (r69.snd.fst))])
theorem den_tg_PopMin (a0 : PA) : denFn Try.prog Try.f102 [.c (.addr a0)] = M_tg_PopMin a0 := by kernel_rfl
theorem hc_tg_PopMin (a0 : PA) {h : H} {R : Value → H → Prop} (hw : wp Try.prog (M_tg_PopMin a0) (Ret R) h) : HC Try.prog fn_tg_PopMin (List.map AV.val [.c (.addr a0)]).toArray h R :=
  den_calls hmix Try.func102 (of_decide_eq_true rfl) (by rw [den_tg_PopMin]; exact hw)
end Go.Proofs.Ytebiihomlhljkaa
