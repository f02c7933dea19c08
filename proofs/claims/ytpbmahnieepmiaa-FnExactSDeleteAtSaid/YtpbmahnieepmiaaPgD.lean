/-
  Functions of the translation as typed programs, and that each is its function's reading. Written by a program of ours (gen2.py). Conditions: none.
-/
import Derived.Test.YtpbmahnieepmiaaNm
namespace Go.Proofs.Ytpbmahnieepmiaa
open Go
set_option maxRecDepth 100000
set_option linter.unusedVariables false
def M_ms_Delete (a0 : PA) (a1 : Int) : M :=
  .alloc ty_struct [] fun n0 =>
  .load (a0.fst, a0.snd + 2) (.ptr) fun q1 =>
  .ite (Option.isNone q1)
  (.there (a0.fst, a0.snd + 4) <|
    .done .ret [.agg [], .c (.ff)])
  (.call fn_ms_delete [.c (.addr a0), .c (.addr (a0.fst, a0.snd + 2)), .c (.ff), .c (.int .i64 (a1))] true [.agg [.int .i64], .c (.bool)] fun r2 =>
    .alloc ty_btree_mapPair_int_struct [.int .i64 (0)] fun n3 =>
    .store (n3, 0) (.int .i64 (r2.fst.fst)) <|
    .ite (!r2.snd.fst)
    (.there (a0.fst, a0.snd + 4) <|
      .done .ret [.agg [], .c (.ff)])
    (.bind none (.load (a0.fst, a0.snd + 2) (.ptr) fun q4 =>
        .nonnil (q4) fun p5 =>
        .load (p5.fst, p5.snd + 2) (.sl) fun s6 =>
        .ite ((↑s6.snd.fst : Int) == 0)
        (.load (a0.fst, a0.snd + 2) (.ptr) fun q7 =>
          .call fn_ns_leaf [.c (.ptr (q7))] false [.c (.bool)] fun r8 =>
          .done .normal [.c (.bool (!r8.fst))])
        (.done .normal [.c (.ff)])) [.c (.bool)] fun x9 =>
      .bind none (.ite (x9.fst)
        (.load (a0.fst, a0.snd + 2) (.ptr) fun q10 =>
          .nonnil (q10) fun p11 =>
          .load (p11.fst, p11.snd + 3) (.ptr) fun q12 =>
          .nonnil (q12) fun p13 =>
          .load p13 (.sl) fun s14 =>
          .nonnil (s14.fst) fun p15 =>
          .guard (((0 : Int) ≤ 0) ∧ ((0 : Int) < (↑s14.snd.fst : Int))) <|
          .load (p15.fst, p15.snd) (.ptr) fun q16 =>
          .store (a0.fst, a0.snd + 2) (.ptr (q16)) <|
          .done .normal [])
        (.done .normal [])) [] fun x17 =>
      .load (a0.fst, a0.snd + 3) (.int .i64) fun i18 =>
      .guard (InK IntKind.i64 (i18 - 1)) <|
      .store (a0.fst, a0.snd + 3) (.int .i64 (i18 - 1)) <|
      .load (a0.fst, a0.snd + 3) (.int .i64) fun i19 =>
      .bind none (.ite (i19 == 0)
        (.store (a0.fst, a0.snd + 2) (.ptr none) <|
          .done .normal [])
        (.done .normal [])) [] fun x20 =>
      .there (n3, 0) <|
      .done .ret [.agg [], .c (.tt)]))
theorem den_ms_Delete (a0 : PA) (a1 : Int) : denFn Try.prog Try.f101 [.c (.addr a0), .c (.int .i64 a1)] = M_ms_Delete a0 a1 := by kernel_rfl
theorem hc_ms_Delete (a0 : PA) (a1 : Int) {h : H} {R : Value → H → Prop} (hw : wp Try.prog (M_ms_Delete a0 a1) (Ret R) h) : HC Try.prog fn_ms_Delete (List.map AV.val [.c (.addr a0), .c (.int .i64 a1)]).toArray h R :=
  den_calls hmix Try.func101 (of_decide_eq_true rfl) (by rw [den_ms_Delete]; exact hw)
def M_ms_delete (a0 : PA) (a1 : PA) (a2 : Bool) (a3 : Int) : M :=
  .alloc ty_btree_mapPair_int_struct [.int .i64 (0)] fun n0 =>
  .call fn_ms_isoLoad [.c (.addr a0), .c (.addr a1), .c (.tt)] false [.c (.ptr)] fun r1 =>
  .bind none (.ite (a2)
    (.nonnil (r1.fst) fun p2 =>
      .load (p2.fst, p2.snd + 2) (.sl) fun s3 =>
      .guard (InK IntKind.i64 ((↑s3.snd.fst : Int) - 1)) <|
      .done .normal [.c (.tt), .c (.int .i64 ((↑s3.snd.fst : Int) - 1))])
    (.call fn_ms_search [.c (.addr a0), .c (.ptr (r1.fst)), .c (.int .i64 (a3))] true [.c (.int .i64), .c (.bool)] fun r4 =>
      .done .normal [.c (.bool (r4.snd.fst)), .c (.int .i64 (r4.fst))])) [.c (.bool), .c (.int .i64)] fun x5 =>
  .call fn_ns_leaf [.c (.ptr (r1.fst))] false [.c (.bool)] fun r6 =>
  .ite (r6.fst)
  (.ite (x5.fst)
    (.nonnil (r1.fst) fun p7 =>
      .load (p7.fst, p7.snd + 2) (.sl) fun s8 =>
      .nonnil (s8.fst) fun p9 =>
      .guard (((0 : Int) ≤ x5.snd.fst) ∧ ((x5.snd.fst : Int) < (↑s8.snd.fst : Int))) <|
      .load (p9.fst, p9.snd + Int.toNat x5.snd.fst) (.int .i64) fun i10 =>
      .alloc ty_btree_mapPair_int_struct [.int .i64 (0)] fun n11 =>
      .store (n11, 0) (.int .i64 (i10)) <|
      .nonnil (r1.fst) fun p12 =>
      .load (p12.fst, p12.snd + 2) (.sl) fun s13 =>
      .guard (((0 : Int) ≤ x5.snd.fst) ∧ ((x5.snd.fst : Int) ≤ (↑s13.snd.fst : Int))) <|
      .nonnil (r1.fst) fun p14 =>
      .load (p14.fst, p14.snd + 2) (.sl) fun s15 =>
      .guard (InK IntKind.i64 (x5.snd.fst + 1)) <|
      .guard (((0 : Int) ≤ x5.snd.fst + 1) ∧ ((x5.snd.fst + 1 : Int) ≤ (↑s15.snd.fst : Int))) <|
      .copy 1 ((slBase s13.fst s13.snd.snd (Int.toNat x5.snd.fst) 1), s13.snd.fst - Int.toNat x5.snd.fst, s13.snd.snd - Int.toNat x5.snd.fst) ((slBase s15.fst s15.snd.snd (x5.snd.fst + 1).toNat 1), s15.snd.fst - (x5.snd.fst + 1).toNat, s15.snd.snd - (x5.snd.fst + 1).toNat) fun m16 =>
      .nonnil (r1.fst) fun p17 =>
      .load (p17.fst, p17.snd + 2) (.sl) fun s18 =>
      .nonnil (r1.fst) fun p19 =>
      .load (p19.fst, p19.snd + 2) (.sl) fun s20 =>
      .guard (InK IntKind.i64 ((↑s20.snd.fst : Int) - 1)) <|
      .load (a0.fst, a0.snd + 4) (.int .i64) fun i21 =>
      .nonnil (s18.fst) fun p22 =>
      .guard (((0 : Int) ≤ (↑s20.snd.fst : Int) - 1) ∧ (((↑s20.snd.fst : Int) - 1 : Int) < (↑s18.snd.fst : Int))) <|
      .store (p22.fst, p22.snd + ((↑s20.snd.fst : Int) - 1).toNat) (.int .i64 (i21)) <|
      .nonnil (r1.fst) fun p23 =>
      .load (p23.fst, p23.snd + 2) (.sl) fun s24 =>
      .nonnil (r1.fst) fun p25 =>
      .load (p25.fst, p25.snd + 2) (.sl) fun s26 =>
      .guard (InK IntKind.i64 ((↑s26.snd.fst : Int) - 1)) <|
      .guard (((0 : Int) ≤ (↑s26.snd.fst : Int) - 1) ∧ (((↑s26.snd.fst : Int) - 1 : Int) ≤ (↑s24.snd.snd : Int))) <|
      .nonnil (r1.fst) fun p27 =>
      .store (p27.fst, p27.snd + 2) (.sl (slBase s24.fst s24.snd.snd 0 1) (((↑s26.snd.fst : Int) - 1).toNat - 0) (s24.snd.snd - 0)) <|
      .nonnil (r1.fst) fun p28 =>
      .load (p28.fst, p28.snd + 1) (.int .i64) fun i29 =>
      .guard (InK IntKind.i64 (i29 - 1)) <|
      .nonnil (r1.fst) fun p30 =>
      .store (p30.fst, p30.snd + 1) (.int .i64 (i29 - 1)) <|
      .load (n11, 0) (.int .i64) fun i31 =>
      .store (n0, 0) (.int .i64 (i31)) <|
      .load (n0, 0) (.int .i64) fun i32 =>
      .done .ret [.agg [.int .i64 (i32)], .c (.tt)])
    (.load (a0.fst, a0.snd + 4) (.int .i64) fun i33 =>
      .store (n0, 0) (.int .i64 (i33)) <|
      .load (n0, 0) (.int .i64) fun i34 =>
      .done .ret [.agg [.int .i64 (i34)], .c (.ff)]))
  (.alloc ty_btree_mapPair_int_struct [.int .i64 (0)] fun n35 =>
    .bind none (.ite (x5.fst)
      (.bind none (.ite (a2)
          (.guard (InK IntKind.i64 (x5.snd.fst + 1)) <|
            .nonnil (r1.fst) fun p36 =>
            .load (p36.fst, p36.snd + 3) (.ptr) fun q37 =>
            .nonnil (q37) fun p38 =>
            .load p38 (.sl) fun s39 =>
            .nonnil (s39.fst) fun p40 =>
            .guard (((0 : Int) ≤ x5.snd.fst + 1) ∧ ((x5.snd.fst + 1 : Int) < (↑s39.snd.fst : Int))) <|
            .load (a0.fst, a0.snd + 4) (.int .i64) fun i41 =>
            .call fn_ms_delete [.c (.addr a0), .c (.addr (p40.fst, p40.snd + (x5.snd.fst + 1).toNat)), .c (.tt), .c (.int .i64 (i41))] true [.agg [.int .i64], .c (.bool)] fun r42 =>
            .store (n35, 0) (.int .i64 (r42.fst.fst)) <|
            .done .normal [.c (.bool (r42.snd.fst)), .c (.int .i64 (x5.snd.fst + 1))])
          (.nonnil (r1.fst) fun p43 =>
            .load (p43.fst, p43.snd + 2) (.sl) fun s44 =>
            .nonnil (s44.fst) fun p45 =>
            .guard (((0 : Int) ≤ x5.snd.fst) ∧ ((x5.snd.fst : Int) < (↑s44.snd.fst : Int))) <|
            .load (p45.fst, p45.snd + Int.toNat x5.snd.fst) (.int .i64) fun i46 =>
            .store (n35, 0) (.int .i64 (i46)) <|
            .bind none (.nonnil (r1.fst) fun p47 =>
              .load (p47.fst, p47.snd + 3) (.ptr) fun q48 =>
              .nonnil (q48) fun p49 =>
              .load p49 (.sl) fun s50 =>
              .nonnil (s50.fst) fun p51 =>
              .guard (((0 : Int) ≤ x5.snd.fst) ∧ ((x5.snd.fst : Int) < (↑s50.snd.fst : Int))) <|
              .load (a0.fst, a0.snd + 4) (.int .i64) fun i52 =>
              .both
              (.call fn_ms_delete [.c (.addr a0), .c (.addr (p51.fst, p51.snd + Int.toNat x5.snd.fst)), .c (.tt), .c (.int .i64 (i52))] true [.agg [.int .i64], .c (.bool)] fun r53 =>
                .alloc ty_btree_mapPair_int_struct [.int .i64 (0)] fun n54 =>
                .store (n54, 0) (.int .i64 (r53.fst.fst)) <|
                .done .normal [.c (.addr (n54, 0))])
              (.alloc ty_btree_mapPair_int_struct [.int .i64 (0)] fun n55 =>
                .held (a0.fst, a0.snd + 4) (.int .i64 (i52)) <|
                .held p49 (.sl (s50.fst) (s50.snd.fst) (s50.snd.snd)) <|
                .held (p47.fst, p47.snd + 3) (.ptr (q48)) <|
                .call fn_ms_delete [.c (.addr a0), .c (.addr (p51.fst, p51.snd + Int.toNat x5.snd.fst)), .c (.tt), .c (.int .i64 (i52))] true [.agg [.int .i64], .c (.bool)] fun r56 =>
                .store (n55, 0) (.int .i64 (r56.fst.fst)) <|
                .done .normal [.c (.addr (n55, 0))])) [.c (.addr)] fun x57 =>
            .nonnil (r1.fst) fun p58 =>
            .load (p58.fst, p58.snd + 2) (.sl) fun s59 =>
            .load x57.fst (.int .i64) fun i60 =>
            .nonnil (s59.fst) fun p61 =>
            .guard (((0 : Int) ≤ x5.snd.fst) ∧ ((x5.snd.fst : Int) < (↑s59.snd.fst : Int))) <|
            .store (p61.fst, p61.snd + Int.toNat x5.snd.fst) (.int .i64 (i60)) <|
            .done .normal [.c (.tt), .c (.int .i64 (x5.snd.fst))])) [.c (.bool), .c (.int .i64)] fun x62 =>
        .done .normal [.c (.bool (x62.fst)), .c (.int .i64 (x62.snd.fst))])
      (.nonnil (r1.fst) fun p63 =>
        .load (p63.fst, p63.snd + 3) (.ptr) fun q64 =>
        .nonnil (q64) fun p65 =>
        .load p65 (.sl) fun s66 =>
        .nonnil (s66.fst) fun p67 =>
        .guard (((0 : Int) ≤ x5.snd.fst) ∧ ((x5.snd.fst : Int) < (↑s66.snd.fst : Int))) <|
        .call fn_ms_delete [.c (.addr a0), .c (.addr (p67.fst, p67.snd + Int.toNat x5.snd.fst)), .c (.bool (a2)), .c (.int .i64 (a3))] true [.agg [.int .i64], .c (.bool)] fun r68 =>
        .store (n35, 0) (.int .i64 (r68.fst.fst)) <|
        .done .normal [.c (.bool (r68.snd.fst)), .c (.int .i64 (x5.snd.fst))])) [.c (.bool), .c (.int .i64)] fun x69 =>
    .ite (!x69.fst)
    (.load (a0.fst, a0.snd + 4) (.int .i64) fun i70 =>
      .store (n0, 0) (.int .i64 (i70)) <|
      .load (n0, 0) (.int .i64) fun i71 =>
      .done .ret [.agg [.int .i64 (i71)], .c (.ff)])
    (.nonnil (r1.fst) fun p72 =>
      .load (p72.fst, p72.snd + 1) (.int .i64) fun i73 =>
      .guard (InK IntKind.i64 (i73 - 1)) <|
      .nonnil (r1.fst) fun p74 =>
      .store (p74.fst, p74.snd + 1) (.int .i64 (i73 - 1)) <|
      .nonnil (r1.fst) fun p75 =>
      .load (p75.fst, p75.snd + 3) (.ptr) fun q76 =>
      .nonnil (q76) fun p77 =>
      .load p77 (.sl) fun s78 =>
      .nonnil (s78.fst) fun p79 =>
      .guard (((0 : Int) ≤ x69.snd.fst) ∧ ((x69.snd.fst : Int) < (↑s78.snd.fst : Int))) <|
      .load (p79.fst, p79.snd + Int.toNat x69.snd.fst) (.ptr) fun q80 =>
      .nonnil (q80) fun p81 =>
      .load (p81.fst, p81.snd + 2) (.sl) fun s82 =>
      .load (a0.fst, a0.snd + 5) (.int .i64) fun i83 =>
      .bind none (.ite (decide ((↑s82.snd.fst : Int) < i83))
        (.call fn_ms_nodeRebalance [.c (.addr a0), .c (.ptr (r1.fst)), .c (.int .i64 (x69.snd.fst))] true [] fun r84 =>
          .done .normal [])
        (.done .normal [])) [] fun x85 =>
      .load (n35, 0) (.int .i64) fun i86 =>
      .store (n0, 0) (.int .i64 (i86)) <|
      .load (n0, 0) (.int .i64) fun i87 =>
      .done .ret [.agg [.int .i64 (i87)], .c (.tt)]))
theorem den_ms_delete (a0 : PA) (a1 : PA) (a2 : Bool) (a3 : Int) : denFn Try.prog Try.f109 [.c (.addr a0), .c (.addr a1), .c (.bool a2), .c (.int .i64 a3)] = M_ms_delete a0 a1 a2 a3 := by kernel_rfl
theorem hc_ms_delete (a0 : PA) (a1 : PA) (a2 : Bool) (a3 : Int) {h : H} {R : Value → H → Prop} (hw : wp Try.prog (M_ms_delete a0 a1 a2 a3) (Ret R) h) : HC Try.prog fn_ms_delete (List.map AV.val [.c (.addr a0), .c (.addr a1), .c (.bool a2), .c (.int .i64 a3)]).toArray h R :=
  den_calls hmix Try.func109 (of_decide_eq_true rfl) (by rw [den_ms_delete]; exact hw)
def M_ms_nodeRebalance (a0 : PA) (a1 : PA) (a2 : Int) : M :=
  .load (a1.fst, a1.snd + 2) (.sl) fun s0 =>
  .bind none (.ite (a2 == (↑s0.snd.fst : Int))
    (.guard (InK IntKind.i64 (a2 - 1)) <|
      .done .normal [.c (.int .i64 (a2 - 1))])
    (.done .normal [.c (.int .i64 (a2))])) [.c (.int .i64)] fun x1 =>
  .load (a1.fst, a1.snd + 3) (.ptr) fun q2 =>
  .nonnil (q2) fun p3 =>
  .load p3 (.sl) fun s4 =>
  .nonnil (s4.fst) fun p5 =>
  .guard (((0 : Int) ≤ x1.fst) ∧ ((x1.fst : Int) < (↑s4.snd.fst : Int))) <|
  .call fn_ms_isoLoad [.c (.addr a0), .c (.addr (p5.fst, p5.snd + Int.toNat x1.fst)), .c (.tt)] false [.c (.ptr)] fun r6 =>
  .load (a1.fst, a1.snd + 3) (.ptr) fun q7 =>
  .nonnil (q7) fun p8 =>
  .load p8 (.sl) fun s9 =>
  .guard (InK IntKind.i64 (x1.fst + 1)) <|
  .nonnil (s9.fst) fun p10 =>
  .guard (((0 : Int) ≤ x1.fst + 1) ∧ ((x1.fst + 1 : Int) < (↑s9.snd.fst : Int))) <|
  .call fn_ms_isoLoad [.c (.addr a0), .c (.addr (p10.fst, p10.snd + (x1.fst + 1).toNat)), .c (.tt)] false [.c (.ptr)] fun r11 =>
  .nonnil (r6.fst) fun p12 =>
  .load (p12.fst, p12.snd + 2) (.sl) fun s13 =>
  .nonnil (r11.fst) fun p14 =>
  .load (p14.fst, p14.snd + 2) (.sl) fun s15 =>
  .guard (InK IntKind.i64 ((↑s13.snd.fst : Int) + (↑s15.snd.fst : Int))) <|
  .load (a0.fst, a0.snd + 6) (.int .i64) fun i16 =>
  .bind none (.ite (decide ((↑s13.snd.fst : Int) + (↑s15.snd.fst : Int) < i16))
    (.nonnil (r6.fst) fun p17 =>
      .load (p17.fst, p17.snd + 2) (.sl) fun s18 =>
      .load (a1.fst, a1.snd + 2) (.sl) fun s19 =>
      .nonnil (s19.fst) fun p20 =>
      .guard (((0 : Int) ≤ x1.fst) ∧ ((x1.fst : Int) < (↑s19.snd.fst : Int))) <|
      .load (p20.fst, p20.snd + Int.toNat x1.fst) (.int .i64) fun i21 =>
      .alloc ty_btree_mapPair_int_struct [.int .i64 (i21)] fun n22 =>
      .held (p17.fst, p17.snd + 2) (.sl (s18.fst) (s18.snd.fst) (s18.snd.snd)) <|
      .append ty_btree_mapPair_int_struct 1 8 [.int .i64 (0)] ((s18.fst), s18.snd.fst, s18.snd.snd) ((some (n22, 0)), 1, 1) fun s23 =>
      .nonnil (r6.fst) fun p24 =>
      .store (p24.fst, p24.snd + 2) (.sl (s23.fst) (s23.snd.fst) (s23.snd.snd)) <|
      .nonnil (r6.fst) fun p25 =>
      .load (p25.fst, p25.snd + 2) (.sl) fun s26 =>
      .nonnil (r11.fst) fun p27 =>
      .load (p27.fst, p27.snd + 2) (.sl) fun s28 =>
      .append ty_btree_mapPair_int_struct 1 8 [.int .i64 (0)] ((s26.fst), s26.snd.fst, s26.snd.snd) ((s28.fst), s28.snd.fst, s28.snd.snd) fun s29 =>
      .nonnil (r6.fst) fun p30 =>
      .store (p30.fst, p30.snd + 2) (.sl (s29.fst) (s29.snd.fst) (s29.snd.snd)) <|
      .call fn_ns_leaf [.c (.ptr (r6.fst))] false [.c (.bool)] fun r31 =>
      .bind none (.ite (!r31.fst)
        (.nonnil (r6.fst) fun p32 =>
          .load (p32.fst, p32.snd + 3) (.ptr) fun q33 =>
          .nonnil (r6.fst) fun p34 =>
          .load (p34.fst, p34.snd + 3) (.ptr) fun q35 =>
          .nonnil (q35) fun p36 =>
          .load p36 (.sl) fun s37 =>
          .nonnil (r11.fst) fun p38 =>
          .load (p38.fst, p38.snd + 3) (.ptr) fun q39 =>
          .nonnil (q39) fun p40 =>
          .load p40 (.sl) fun s41 =>
          .append ty_p_btree_mapNode_int_struct 1 8 [.ptr none] ((s37.fst), s37.snd.fst, s37.snd.snd) ((s41.fst), s41.snd.fst, s41.snd.snd) fun s42 =>
          .held (p32.fst, p32.snd + 3) (.ptr (q33)) <|
          .nonnil (q33) fun p43 =>
          .store p43 (.sl (s42.fst) (s42.snd.fst) (s42.snd.snd)) <|
          .done .normal [])
        (.done .normal [])) [] fun x44 =>
      .nonnil (r6.fst) fun p45 =>
      .load (p45.fst, p45.snd + 1) (.int .i64) fun i46 =>
      .nonnil (r11.fst) fun p47 =>
      .load (p47.fst, p47.snd + 1) (.int .i64) fun i48 =>
      .guard (InK IntKind.i64 (i48 + 1)) <|
      .guard (InK IntKind.i64 (i46 + (i48 + 1))) <|
      .nonnil (r6.fst) fun p49 =>
      .store (p49.fst, p49.snd + 1) (.int .i64 (i46 + (i48 + 1))) <|
      .load (a1.fst, a1.snd + 2) (.sl) fun s50 =>
      .guard (((0 : Int) ≤ x1.fst) ∧ ((x1.fst : Int) ≤ (↑s50.snd.fst : Int))) <|
      .load (a1.fst, a1.snd + 2) (.sl) fun s51 =>
      .guard (InK IntKind.i64 (x1.fst + 1)) <|
      .guard (((0 : Int) ≤ x1.fst + 1) ∧ ((x1.fst + 1 : Int) ≤ (↑s51.snd.fst : Int))) <|
      .copy 1 ((slBase s50.fst s50.snd.snd (Int.toNat x1.fst) 1), s50.snd.fst - Int.toNat x1.fst, s50.snd.snd - Int.toNat x1.fst) ((slBase s51.fst s51.snd.snd (x1.fst + 1).toNat 1), s51.snd.fst - (x1.fst + 1).toNat, s51.snd.snd - (x1.fst + 1).toNat) fun m52 =>
      .load (a1.fst, a1.snd + 2) (.sl) fun s53 =>
      .load (a1.fst, a1.snd + 2) (.sl) fun s54 =>
      .guard (InK IntKind.i64 ((↑s54.snd.fst : Int) - 1)) <|
      .load (a0.fst, a0.snd + 4) (.int .i64) fun i55 =>
      .nonnil (s53.fst) fun p56 =>
      .guard (((0 : Int) ≤ (↑s54.snd.fst : Int) - 1) ∧ (((↑s54.snd.fst : Int) - 1 : Int) < (↑s53.snd.fst : Int))) <|
      .store (p56.fst, p56.snd + ((↑s54.snd.fst : Int) - 1).toNat) (.int .i64 (i55)) <|
      .load (a1.fst, a1.snd + 2) (.sl) fun s57 =>
      .load (a1.fst, a1.snd + 2) (.sl) fun s58 =>
      .guard (InK IntKind.i64 ((↑s58.snd.fst : Int) - 1)) <|
      .guard (((0 : Int) ≤ (↑s58.snd.fst : Int) - 1) ∧ (((↑s58.snd.fst : Int) - 1 : Int) ≤ (↑s57.snd.snd : Int))) <|
      .store (a1.fst, a1.snd + 2) (.sl (slBase s57.fst s57.snd.snd 0 1) (((↑s58.snd.fst : Int) - 1).toNat - 0) (s57.snd.snd - 0)) <|
      .load (a1.fst, a1.snd + 3) (.ptr) fun q59 =>
      .nonnil (q59) fun p60 =>
      .load p60 (.sl) fun s61 =>
      .guard (InK IntKind.i64 (x1.fst + 1)) <|
      .guard (((0 : Int) ≤ x1.fst + 1) ∧ ((x1.fst + 1 : Int) ≤ (↑s61.snd.fst : Int))) <|
      .load (a1.fst, a1.snd + 3) (.ptr) fun q62 =>
      .nonnil (q62) fun p63 =>
      .load p63 (.sl) fun s64 =>
      .guard (InK IntKind.i64 (x1.fst + 2)) <|
      .guard (((0 : Int) ≤ x1.fst + 2) ∧ ((x1.fst + 2 : Int) ≤ (↑s64.snd.fst : Int))) <|
      .copy 1 ((slBase s61.fst s61.snd.snd (x1.fst + 1).toNat 1), s61.snd.fst - (x1.fst + 1).toNat, s61.snd.snd - (x1.fst + 1).toNat) ((slBase s64.fst s64.snd.snd (x1.fst + 2).toNat 1), s64.snd.fst - (x1.fst + 2).toNat, s64.snd.snd - (x1.fst + 2).toNat) fun m65 =>
      .load (a1.fst, a1.snd + 3) (.ptr) fun q66 =>
      .nonnil (q66) fun p67 =>
      .load p67 (.sl) fun s68 =>
      .load (a1.fst, a1.snd + 3) (.ptr) fun q69 =>
      .nonnil (q69) fun p70 =>
      .load p70 (.sl) fun s71 =>
      .guard (InK IntKind.i64 ((↑s71.snd.fst : Int) - 1)) <|
      .nonnil (s68.fst) fun p72 =>
      .guard (((0 : Int) ≤ (↑s71.snd.fst : Int) - 1) ∧ (((↑s71.snd.fst : Int) - 1 : Int) < (↑s68.snd.fst : Int))) <|
      .store (p72.fst, p72.snd + ((↑s71.snd.fst : Int) - 1).toNat) (.ptr none) <|
      .load (a1.fst, a1.snd + 3) (.ptr) fun q73 =>
      .load (a1.fst, a1.snd + 3) (.ptr) fun q74 =>
      .nonnil (q74) fun p75 =>
      .load p75 (.sl) fun s76 =>
      .load (a1.fst, a1.snd + 3) (.ptr) fun q77 =>
      .nonnil (q77) fun p78 =>
      .load p78 (.sl) fun s79 =>
      .guard (InK IntKind.i64 ((↑s79.snd.fst : Int) - 1)) <|
      .guard (((0 : Int) ≤ (↑s79.snd.fst : Int) - 1) ∧ (((↑s79.snd.fst : Int) - 1 : Int) ≤ (↑s76.snd.snd : Int))) <|
      .nonnil (q73) fun p80 =>
      .store p80 (.sl (slBase s76.fst s76.snd.snd 0 1) (((↑s79.snd.fst : Int) - 1).toNat - 0) (s76.snd.snd - 0)) <|
      .done .normal [])
    (.nonnil (r6.fst) fun p81 =>
      .load (p81.fst, p81.snd + 2) (.sl) fun s82 =>
      .nonnil (r11.fst) fun p83 =>
      .load (p83.fst, p83.snd + 2) (.sl) fun s84 =>
      .bind none (.ite (decide ((↑s82.snd.fst : Int) > (↑s84.snd.fst : Int)))
        (.nonnil (r11.fst) fun p85 =>
          .load (p85.fst, p85.snd + 2) (.sl) fun s86 =>
          .load (a0.fst, a0.snd + 4) (.int .i64) fun i87 =>
          .alloc ty_btree_mapPair_int_struct [.int .i64 (i87)] fun n88 =>
          .held (p85.fst, p85.snd + 2) (.sl (s86.fst) (s86.snd.fst) (s86.snd.snd)) <|
          .append ty_btree_mapPair_int_struct 1 8 [.int .i64 (0)] ((s86.fst), s86.snd.fst, s86.snd.snd) ((some (n88, 0)), 1, 1) fun s89 =>
          .nonnil (r11.fst) fun p90 =>
          .store (p90.fst, p90.snd + 2) (.sl (s89.fst) (s89.snd.fst) (s89.snd.snd)) <|
          .nonnil (r11.fst) fun p91 =>
          .load (p91.fst, p91.snd + 2) (.sl) fun s92 =>
          .guard (((0 : Int) ≤ 1) ∧ ((1 : Int) ≤ (↑s92.snd.fst : Int))) <|
          .nonnil (r11.fst) fun p93 =>
          .load (p93.fst, p93.snd + 2) (.sl) fun s94 =>
          .copy 1 ((slBase s92.fst s92.snd.snd 1 1), s92.snd.fst - 1, s92.snd.snd - 1) ((s94.fst), s94.snd.fst, s94.snd.snd) fun m95 =>
          .nonnil (r11.fst) fun p96 =>
          .load (p96.fst, p96.snd + 2) (.sl) fun s97 =>
          .load (a1.fst, a1.snd + 2) (.sl) fun s98 =>
          .nonnil (s98.fst) fun p99 =>
          .guard (((0 : Int) ≤ x1.fst) ∧ ((x1.fst : Int) < (↑s98.snd.fst : Int))) <|
          .load (p99.fst, p99.snd + Int.toNat x1.fst) (.int .i64) fun i100 =>
          .nonnil (s97.fst) fun p101 =>
          .guard (((0 : Int) ≤ 0) ∧ ((0 : Int) < (↑s97.snd.fst : Int))) <|
          .store (p101.fst, p101.snd) (.int .i64 (i100)) <|
          .nonnil (r11.fst) fun p102 =>
          .load (p102.fst, p102.snd + 1) (.int .i64) fun i103 =>
          .guard (InK IntKind.i64 (i103 + 1)) <|
          .nonnil (r11.fst) fun p104 =>
          .store (p104.fst, p104.snd + 1) (.int .i64 (i103 + 1)) <|
          .load (a1.fst, a1.snd + 2) (.sl) fun s105 =>
          .nonnil (r6.fst) fun p106 =>
          .load (p106.fst, p106.snd + 2) (.sl) fun s107 =>
          .nonnil (r6.fst) fun p108 =>
          .load (p108.fst, p108.snd + 2) (.sl) fun s109 =>
          .guard (InK IntKind.i64 ((↑s109.snd.fst : Int) - 1)) <|
          .nonnil (s107.fst) fun p110 =>
          .guard (((0 : Int) ≤ (↑s109.snd.fst : Int) - 1) ∧ (((↑s109.snd.fst : Int) - 1 : Int) < (↑s107.snd.fst : Int))) <|
          .load (p110.fst, p110.snd + ((↑s109.snd.fst : Int) - 1).toNat) (.int .i64) fun i111 =>
          .nonnil (s105.fst) fun p112 =>
          .guard (((0 : Int) ≤ x1.fst) ∧ ((x1.fst : Int) < (↑s105.snd.fst : Int))) <|
          .store (p112.fst, p112.snd + Int.toNat x1.fst) (.int .i64 (i111)) <|
          .nonnil (r6.fst) fun p113 =>
          .load (p113.fst, p113.snd + 2) (.sl) fun s114 =>
          .nonnil (r6.fst) fun p115 =>
          .load (p115.fst, p115.snd + 2) (.sl) fun s116 =>
          .guard (InK IntKind.i64 ((↑s116.snd.fst : Int) - 1)) <|
          .load (a0.fst, a0.snd + 4) (.int .i64) fun i117 =>
          .nonnil (s114.fst) fun p118 =>
          .guard (((0 : Int) ≤ (↑s116.snd.fst : Int) - 1) ∧ (((↑s116.snd.fst : Int) - 1 : Int) < (↑s114.snd.fst : Int))) <|
          .store (p118.fst, p118.snd + ((↑s116.snd.fst : Int) - 1).toNat) (.int .i64 (i117)) <|
          .nonnil (r6.fst) fun p119 =>
          .load (p119.fst, p119.snd + 2) (.sl) fun s120 =>
          .nonnil (r6.fst) fun p121 =>
          .load (p121.fst, p121.snd + 2) (.sl) fun s122 =>
          .guard (InK IntKind.i64 ((↑s122.snd.fst : Int) - 1)) <|
          .guard (((0 : Int) ≤ (↑s122.snd.fst : Int) - 1) ∧ (((↑s122.snd.fst : Int) - 1 : Int) ≤ (↑s120.snd.snd : Int))) <|
          .nonnil (r6.fst) fun p123 =>
          .store (p123.fst, p123.snd + 2) (.sl (slBase s120.fst s120.snd.snd 0 1) (((↑s122.snd.fst : Int) - 1).toNat - 0) (s120.snd.snd - 0)) <|
          .nonnil (r6.fst) fun p124 =>
          .load (p124.fst, p124.snd + 1) (.int .i64) fun i125 =>
          .guard (InK IntKind.i64 (i125 - 1)) <|
          .nonnil (r6.fst) fun p126 =>
          .store (p126.fst, p126.snd + 1) (.int .i64 (i125 - 1)) <|
          .call fn_ns_leaf [.c (.ptr (r6.fst))] false [.c (.bool)] fun r127 =>
          .bind none (.ite (!r127.fst)
            (.nonnil (r11.fst) fun p128 =>
              .load (p128.fst, p128.snd + 3) (.ptr) fun q129 =>
              .nonnil (r11.fst) fun p130 =>
              .load (p130.fst, p130.snd + 3) (.ptr) fun q131 =>
              .nonnil (q131) fun p132 =>
              .load p132 (.sl) fun s133 =>
              .alloc ty_p_btree_mapNode_int_struct [.ptr none] fun n134 =>
              .held p132 (.sl (s133.fst) (s133.snd.fst) (s133.snd.snd)) <|
              .held (p130.fst, p130.snd + 3) (.ptr (q131)) <|
              .held (p128.fst, p128.snd + 3) (.ptr (q129)) <|
              .append ty_p_btree_mapNode_int_struct 1 8 [.ptr none] ((s133.fst), s133.snd.fst, s133.snd.snd) ((some (n134, 0)), 1, 1) fun s135 =>
              .held (p128.fst, p128.snd + 3) (.ptr (q129)) <|
              .nonnil (q129) fun p136 =>
              .store p136 (.sl (s135.fst) (s135.snd.fst) (s135.snd.snd)) <|
              .nonnil (r11.fst) fun p137 =>
              .load (p137.fst, p137.snd + 3) (.ptr) fun q138 =>
              .nonnil (q138) fun p139 =>
              .load p139 (.sl) fun s140 =>
              .guard (((0 : Int) ≤ 1) ∧ ((1 : Int) ≤ (↑s140.snd.fst : Int))) <|
              .nonnil (r11.fst) fun p141 =>
              .load (p141.fst, p141.snd + 3) (.ptr) fun q142 =>
              .nonnil (q142) fun p143 =>
              .load p143 (.sl) fun s144 =>
              .copy 1 ((slBase s140.fst s140.snd.snd 1 1), s140.snd.fst - 1, s140.snd.snd - 1) ((s144.fst), s144.snd.fst, s144.snd.snd) fun m145 =>
              .nonnil (r11.fst) fun p146 =>
              .load (p146.fst, p146.snd + 3) (.ptr) fun q147 =>
              .nonnil (q147) fun p148 =>
              .load p148 (.sl) fun s149 =>
              .nonnil (r6.fst) fun p150 =>
              .load (p150.fst, p150.snd + 3) (.ptr) fun q151 =>
              .nonnil (q151) fun p152 =>
              .load p152 (.sl) fun s153 =>
              .nonnil (r6.fst) fun p154 =>
              .load (p154.fst, p154.snd + 3) (.ptr) fun q155 =>
              .nonnil (q155) fun p156 =>
              .load p156 (.sl) fun s157 =>
              .guard (InK IntKind.i64 ((↑s157.snd.fst : Int) - 1)) <|
              .nonnil (s153.fst) fun p158 =>
              .guard (((0 : Int) ≤ (↑s157.snd.fst : Int) - 1) ∧ (((↑s157.snd.fst : Int) - 1 : Int) < (↑s153.snd.fst : Int))) <|
              .load (p158.fst, p158.snd + ((↑s157.snd.fst : Int) - 1).toNat) (.ptr) fun q159 =>
              .nonnil (s149.fst) fun p160 =>
              .guard (((0 : Int) ≤ 0) ∧ ((0 : Int) < (↑s149.snd.fst : Int))) <|
              .store (p160.fst, p160.snd) (.ptr (q159)) <|
              .nonnil (r6.fst) fun p161 =>
              .load (p161.fst, p161.snd + 3) (.ptr) fun q162 =>
              .nonnil (q162) fun p163 =>
              .load p163 (.sl) fun s164 =>
              .nonnil (r6.fst) fun p165 =>
              .load (p165.fst, p165.snd + 3) (.ptr) fun q166 =>
              .nonnil (q166) fun p167 =>
              .load p167 (.sl) fun s168 =>
              .guard (InK IntKind.i64 ((↑s168.snd.fst : Int) - 1)) <|
              .nonnil (s164.fst) fun p169 =>
              .guard (((0 : Int) ≤ (↑s168.snd.fst : Int) - 1) ∧ (((↑s168.snd.fst : Int) - 1 : Int) < (↑s164.snd.fst : Int))) <|
              .store (p169.fst, p169.snd + ((↑s168.snd.fst : Int) - 1).toNat) (.ptr none) <|
              .nonnil (r6.fst) fun p170 =>
              .load (p170.fst, p170.snd + 3) (.ptr) fun q171 =>
              .nonnil (r6.fst) fun p172 =>
              .load (p172.fst, p172.snd + 3) (.ptr) fun q173 =>
              .nonnil (q173) fun p174 =>
              .load p174 (.sl) fun s175 =>
              .nonnil (r6.fst) fun p176 =>
              .load (p176.fst, p176.snd + 3) (.ptr) fun q177 =>
              .nonnil (q177) fun p178 =>
              .load p178 (.sl) fun s179 =>
              .guard (InK IntKind.i64 ((↑s179.snd.fst : Int) - 1)) <|
              .guard (((0 : Int) ≤ (↑s179.snd.fst : Int) - 1) ∧ (((↑s179.snd.fst : Int) - 1 : Int) ≤ (↑s175.snd.snd : Int))) <|
              .nonnil (q171) fun p180 =>
              .store p180 (.sl (slBase s175.fst s175.snd.snd 0 1) (((↑s179.snd.fst : Int) - 1).toNat - 0) (s175.snd.snd - 0)) <|
              .nonnil (r6.fst) fun p181 =>
              .load (p181.fst, p181.snd + 1) (.int .i64) fun i182 =>
              .nonnil (r11.fst) fun p183 =>
              .load (p183.fst, p183.snd + 3) (.ptr) fun q184 =>
              .nonnil (q184) fun p185 =>
              .load p185 (.sl) fun s186 =>
              .nonnil (s186.fst) fun p187 =>
              .guard (((0 : Int) ≤ 0) ∧ ((0 : Int) < (↑s186.snd.fst : Int))) <|
              .load (p187.fst, p187.snd) (.ptr) fun q188 =>
              .nonnil (q188) fun p189 =>
              .load (p189.fst, p189.snd + 1) (.int .i64) fun i190 =>
              .guard (InK IntKind.i64 (i182 - i190)) <|
              .nonnil (r6.fst) fun p191 =>
              .store (p191.fst, p191.snd + 1) (.int .i64 (i182 - i190)) <|
              .nonnil (r11.fst) fun p192 =>
              .load (p192.fst, p192.snd + 1) (.int .i64) fun i193 =>
              .nonnil (r11.fst) fun p194 =>
              .load (p194.fst, p194.snd + 3) (.ptr) fun q195 =>
              .nonnil (q195) fun p196 =>
              .load p196 (.sl) fun s197 =>
              .nonnil (s197.fst) fun p198 =>
              .guard (((0 : Int) ≤ 0) ∧ ((0 : Int) < (↑s197.snd.fst : Int))) <|
              .load (p198.fst, p198.snd) (.ptr) fun q199 =>
              .nonnil (q199) fun p200 =>
              .load (p200.fst, p200.snd + 1) (.int .i64) fun i201 =>
              .guard (InK IntKind.i64 (i193 + i201)) <|
              .nonnil (r11.fst) fun p202 =>
              .store (p202.fst, p202.snd + 1) (.int .i64 (i193 + i201)) <|
              .done .normal [])
            (.done .normal [])) [] fun x203 =>
          .done .normal [])
        (.nonnil (r6.fst) fun p204 =>
          .load (p204.fst, p204.snd + 2) (.sl) fun s205 =>
          .load (a1.fst, a1.snd + 2) (.sl) fun s206 =>
          .nonnil (s206.fst) fun p207 =>
          .guard (((0 : Int) ≤ x1.fst) ∧ ((x1.fst : Int) < (↑s206.snd.fst : Int))) <|
          .load (p207.fst, p207.snd + Int.toNat x1.fst) (.int .i64) fun i208 =>
          .alloc ty_btree_mapPair_int_struct [.int .i64 (i208)] fun n209 =>
          .held (p204.fst, p204.snd + 2) (.sl (s205.fst) (s205.snd.fst) (s205.snd.snd)) <|
          .append ty_btree_mapPair_int_struct 1 8 [.int .i64 (0)] ((s205.fst), s205.snd.fst, s205.snd.snd) ((some (n209, 0)), 1, 1) fun s210 =>
          .nonnil (r6.fst) fun p211 =>
          .store (p211.fst, p211.snd + 2) (.sl (s210.fst) (s210.snd.fst) (s210.snd.snd)) <|
          .nonnil (r6.fst) fun p212 =>
          .load (p212.fst, p212.snd + 1) (.int .i64) fun i213 =>
          .guard (InK IntKind.i64 (i213 + 1)) <|
          .nonnil (r6.fst) fun p214 =>
          .store (p214.fst, p214.snd + 1) (.int .i64 (i213 + 1)) <|
          .load (a1.fst, a1.snd + 2) (.sl) fun s215 =>
          .nonnil (r11.fst) fun p216 =>
          .load (p216.fst, p216.snd + 2) (.sl) fun s217 =>
          .nonnil (s217.fst) fun p218 =>
          .guard (((0 : Int) ≤ 0) ∧ ((0 : Int) < (↑s217.snd.fst : Int))) <|
          .load (p218.fst, p218.snd) (.int .i64) fun i219 =>
          .nonnil (s215.fst) fun p220 =>
          .guard (((0 : Int) ≤ x1.fst) ∧ ((x1.fst : Int) < (↑s215.snd.fst : Int))) <|
          .store (p220.fst, p220.snd + Int.toNat x1.fst) (.int .i64 (i219)) <|
          .nonnil (r11.fst) fun p221 =>
          .load (p221.fst, p221.snd + 2) (.sl) fun s222 =>
          .nonnil (r11.fst) fun p223 =>
          .load (p223.fst, p223.snd + 2) (.sl) fun s224 =>
          .guard (((0 : Int) ≤ 1) ∧ ((1 : Int) ≤ (↑s224.snd.fst : Int))) <|
          .copy 1 ((s222.fst), s222.snd.fst, s222.snd.snd) ((slBase s224.fst s224.snd.snd 1 1), s224.snd.fst - 1, s224.snd.snd - 1) fun m225 =>
          .nonnil (r11.fst) fun p226 =>
          .load (p226.fst, p226.snd + 2) (.sl) fun s227 =>
          .nonnil (r11.fst) fun p228 =>
          .load (p228.fst, p228.snd + 2) (.sl) fun s229 =>
          .guard (InK IntKind.i64 ((↑s229.snd.fst : Int) - 1)) <|
          .load (a0.fst, a0.snd + 4) (.int .i64) fun i230 =>
          .nonnil (s227.fst) fun p231 =>
          .guard (((0 : Int) ≤ (↑s229.snd.fst : Int) - 1) ∧ (((↑s229.snd.fst : Int) - 1 : Int) < (↑s227.snd.fst : Int))) <|
          .store (p231.fst, p231.snd + ((↑s229.snd.fst : Int) - 1).toNat) (.int .i64 (i230)) <|
          .nonnil (r11.fst) fun p232 =>
          .load (p232.fst, p232.snd + 2) (.sl) fun s233 =>
          .nonnil (r11.fst) fun p234 =>
          .load (p234.fst, p234.snd + 2) (.sl) fun s235 =>
          .guard (InK IntKind.i64 ((↑s235.snd.fst : Int) - 1)) <|
          .guard (((0 : Int) ≤ (↑s235.snd.fst : Int) - 1) ∧ (((↑s235.snd.fst : Int) - 1 : Int) ≤ (↑s233.snd.snd : Int))) <|
          .nonnil (r11.fst) fun p236 =>
          .store (p236.fst, p236.snd + 2) (.sl (slBase s233.fst s233.snd.snd 0 1) (((↑s235.snd.fst : Int) - 1).toNat - 0) (s233.snd.snd - 0)) <|
          .nonnil (r11.fst) fun p237 =>
          .load (p237.fst, p237.snd + 1) (.int .i64) fun i238 =>
          .guard (InK IntKind.i64 (i238 - 1)) <|
          .nonnil (r11.fst) fun p239 =>
          .store (p239.fst, p239.snd + 1) (.int .i64 (i238 - 1)) <|
          .call fn_ns_leaf [.c (.ptr (r6.fst))] false [.c (.bool)] fun r240 =>
          .bind none (.ite (!r240.fst)
            (.nonnil (r6.fst) fun p241 =>
              .load (p241.fst, p241.snd + 3) (.ptr) fun q242 =>
              .nonnil (r6.fst) fun p243 =>
              .load (p243.fst, p243.snd + 3) (.ptr) fun q244 =>
              .nonnil (q244) fun p245 =>
              .load p245 (.sl) fun s246 =>
              .nonnil (r11.fst) fun p247 =>
              .load (p247.fst, p247.snd + 3) (.ptr) fun q248 =>
              .nonnil (q248) fun p249 =>
              .load p249 (.sl) fun s250 =>
              .nonnil (s250.fst) fun p251 =>
              .guard (((0 : Int) ≤ 0) ∧ ((0 : Int) < (↑s250.snd.fst : Int))) <|
              .load (p251.fst, p251.snd) (.ptr) fun q252 =>
              .alloc ty_p_btree_mapNode_int_struct [.ptr (q252)] fun n253 =>
              .held p245 (.sl (s246.fst) (s246.snd.fst) (s246.snd.snd)) <|
              .held (p243.fst, p243.snd + 3) (.ptr (q244)) <|
              .held (p241.fst, p241.snd + 3) (.ptr (q242)) <|
              .append ty_p_btree_mapNode_int_struct 1 8 [.ptr none] ((s246.fst), s246.snd.fst, s246.snd.snd) ((some (n253, 0)), 1, 1) fun s254 =>
              .held (p241.fst, p241.snd + 3) (.ptr (q242)) <|
              .nonnil (q242) fun p255 =>
              .store p255 (.sl (s254.fst) (s254.snd.fst) (s254.snd.snd)) <|
              .nonnil (r11.fst) fun p256 =>
              .load (p256.fst, p256.snd + 3) (.ptr) fun q257 =>
              .nonnil (q257) fun p258 =>
              .load p258 (.sl) fun s259 =>
              .nonnil (r11.fst) fun p260 =>
              .load (p260.fst, p260.snd + 3) (.ptr) fun q261 =>
              .nonnil (q261) fun p262 =>
              .load p262 (.sl) fun s263 =>
              .guard (((0 : Int) ≤ 1) ∧ ((1 : Int) ≤ (↑s263.snd.fst : Int))) <|
              .copy 1 ((s259.fst), s259.snd.fst, s259.snd.snd) ((slBase s263.fst s263.snd.snd 1 1), s263.snd.fst - 1, s263.snd.snd - 1) fun m264 =>
              .nonnil (r11.fst) fun p265 =>
              .load (p265.fst, p265.snd + 3) (.ptr) fun q266 =>
              .nonnil (q266) fun p267 =>
              .load p267 (.sl) fun s268 =>
              .nonnil (r11.fst) fun p269 =>
              .load (p269.fst, p269.snd + 3) (.ptr) fun q270 =>
              .nonnil (q270) fun p271 =>
              .load p271 (.sl) fun s272 =>
              .guard (InK IntKind.i64 ((↑s272.snd.fst : Int) - 1)) <|
              .nonnil (s268.fst) fun p273 =>
              .guard (((0 : Int) ≤ (↑s272.snd.fst : Int) - 1) ∧ (((↑s272.snd.fst : Int) - 1 : Int) < (↑s268.snd.fst : Int))) <|
              .store (p273.fst, p273.snd + ((↑s272.snd.fst : Int) - 1).toNat) (.ptr none) <|
              .nonnil (r11.fst) fun p274 =>
              .load (p274.fst, p274.snd + 3) (.ptr) fun q275 =>
              .nonnil (r11.fst) fun p276 =>
              .load (p276.fst, p276.snd + 3) (.ptr) fun q277 =>
              .nonnil (q277) fun p278 =>
              .load p278 (.sl) fun s279 =>
              .nonnil (r11.fst) fun p280 =>
              .load (p280.fst, p280.snd + 3) (.ptr) fun q281 =>
              .nonnil (q281) fun p282 =>
              .load p282 (.sl) fun s283 =>
              .guard (InK IntKind.i64 ((↑s283.snd.fst : Int) - 1)) <|
              .guard (((0 : Int) ≤ (↑s283.snd.fst : Int) - 1) ∧ (((↑s283.snd.fst : Int) - 1 : Int) ≤ (↑s279.snd.snd : Int))) <|
              .nonnil (q275) fun p284 =>
              .store p284 (.sl (slBase s279.fst s279.snd.snd 0 1) (((↑s283.snd.fst : Int) - 1).toNat - 0) (s279.snd.snd - 0)) <|
              .nonnil (r6.fst) fun p285 =>
              .load (p285.fst, p285.snd + 1) (.int .i64) fun i286 =>
              .nonnil (r6.fst) fun p287 =>
              .load (p287.fst, p287.snd + 3) (.ptr) fun q288 =>
              .nonnil (q288) fun p289 =>
              .load p289 (.sl) fun s290 =>
              .nonnil (r6.fst) fun p291 =>
              .load (p291.fst, p291.snd + 3) (.ptr) fun q292 =>
              .nonnil (q292) fun p293 =>
              .load p293 (.sl) fun s294 =>
              .guard (InK IntKind.i64 ((↑s294.snd.fst : Int) - 1)) <|
              .nonnil (s290.fst) fun p295 =>
              .guard (((0 : Int) ≤ (↑s294.snd.fst : Int) - 1) ∧ (((↑s294.snd.fst : Int) - 1 : Int) < (↑s290.snd.fst : Int))) <|
              .load (p295.fst, p295.snd + ((↑s294.snd.fst : Int) - 1).toNat) (.ptr) fun q296 =>
              .nonnil (q296) fun p297 =>
              .load (p297.fst, p297.snd + 1) (.int .i64) fun i298 =>
              .guard (InK IntKind.i64 (i286 + i298)) <|
              .nonnil (r6.fst) fun p299 =>
              .store (p299.fst, p299.snd + 1) (.int .i64 (i286 + i298)) <|
              .nonnil (r11.fst) fun p300 =>
              .load (p300.fst, p300.snd + 1) (.int .i64) fun i301 =>
              .nonnil (r6.fst) fun p302 =>
              .load (p302.fst, p302.snd + 3) (.ptr) fun q303 =>
              .nonnil (q303) fun p304 =>
              .load p304 (.sl) fun s305 =>
              .nonnil (r6.fst) fun p306 =>
              .load (p306.fst, p306.snd + 3) (.ptr) fun q307 =>
              .nonnil (q307) fun p308 =>
              .load p308 (.sl) fun s309 =>
              .guard (InK IntKind.i64 ((↑s309.snd.fst : Int) - 1)) <|
              .nonnil (s305.fst) fun p310 =>
              .guard (((0 : Int) ≤ (↑s309.snd.fst : Int) - 1) ∧ (((↑s309.snd.fst : Int) - 1 : Int) < (↑s305.snd.fst : Int))) <|
              .load (p310.fst, p310.snd + ((↑s309.snd.fst : Int) - 1).toNat) (.ptr) fun q311 =>
              .nonnil (q311) fun p312 =>
              .load (p312.fst, p312.snd + 1) (.int .i64) fun i313 =>
              .guard (InK IntKind.i64 (i301 - i313)) <|
              .nonnil (r11.fst) fun p314 =>
              .store (p314.fst, p314.snd + 1) (.int .i64 (i301 - i313)) <|
              .done .normal [])
            (.done .normal [])) [] fun x315 =>
          .done .normal [])) [] fun x316 =>
      .done .normal [])) [] fun x317 =>
  .done .ret []
theorem den_ms_nodeRebalance (a0 : PA) (a1 : PA) (a2 : Int) : denFn Try.prog Try.f110 [.c (.addr a0), .c (.addr a1), .c (.int .i64 a2)] = M_ms_nodeRebalance a0 a1 a2 := by kernel_rfl
theorem hc_ms_nodeRebalance (a0 : PA) (a1 : PA) (a2 : Int) {h : H} {R : Value → H → Prop} (hw : wp Try.prog (M_ms_nodeRebalance a0 a1 a2) (Ret R) h) : HC Try.prog fn_ms_nodeRebalance (List.map AV.val [.c (.addr a0), .c (.addr a1), .c (.int .i64 a2)]).toArray h R :=
  den_calls hmix Try.func110 (of_decide_eq_true rfl) (by rw [den_ms_nodeRebalance]; exact hw)
end Go.Proofs.Ytpbmahnieepmiaa
