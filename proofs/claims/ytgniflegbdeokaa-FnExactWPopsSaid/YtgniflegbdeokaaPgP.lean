/-
  Functions of the translation as typed programs, and that each is its function's reading. Written by a program of ours (gen2.py). Conditions: none.
-/
import Derived.Test.YtgniflegbdeokaaNm
namespace Go.Proofs.Ytgniflegbdeokaa
open Go
set_option maxRecDepth 100000
set_option linter.unusedVariables false
def M_mw_PopMax (a0 : PA) : M :=
  .load (a0.fst, a0.snd + 2) (.ptr) fun q0 =>
  .ite (Option.isNone q0)
  (.load (a0.fst, a0.snd + 5) (.str) fun i1 =>
    .load (a0.fst, a0.snd + 4) (.int .i64) fun i2 =>
    .done .ret [.c (.str (i1)), .c (.int .i64 (i2)), .c (.ff)])
  (.call fn_mw_isoLoad [.c (.addr a0), .c (.addr (a0.fst, a0.snd + 2)), .c (.tt)] false [.c (.ptr)] fun r3 =>
    .alloc ty_btree_mapPair_string_int [.int .i64 (0), .str ({ data := #[] })] fun n4 =>
    .bind (some 0) (.loop [.c (.ptr)] [.c (.ptr (r3.fst))] fun y5 =>
        .nonnil (y5.fst) fun p6 =>
        .load (p6.fst, p6.snd + 1) (.int .i64) fun i7 =>
        .guard (InK IntKind.i64 (i7 - 1)) <|
        .nonnil (y5.fst) fun p8 =>
        .store (p8.fst, p8.snd + 1) (.int .i64 (i7 - 1)) <|
        .call fn_nw_leaf [.c (.ptr (y5.fst))] false [.c (.bool)] fun r9 =>
        .ite (r9.fst)
        (.nonnil (y5.fst) fun p10 =>
          .load (p10.fst, p10.snd + 2) (.sl) fun s11 =>
          .nonnil (y5.fst) fun p12 =>
          .load (p12.fst, p12.snd + 2) (.sl) fun s13 =>
          .guard (InK IntKind.i64 ((↑s13.snd.fst : Int) - 1)) <|
          .nonnil (s11.fst) fun p14 =>
          .guard (((0 : Int) ≤ (↑s13.snd.fst : Int) - 1) ∧ (((↑s13.snd.fst : Int) - 1 : Int) < (↑s11.snd.fst : Int))) <|
          .load (p14.fst, p14.snd + mulN ((↑s13.snd.fst : Int) - 1).toNat 2) (.int .i64) fun i15 =>
          .load (p14.fst, p14.snd + mulN ((↑s13.snd.fst : Int) - 1).toNat 2 + 1) (.str) fun i16 =>
          .store (n4, 0) (.int .i64 (i15)) <|
          .store (n4, 1) (.str (i16)) <|
          .nonnil (y5.fst) fun p17 =>
          .load (p17.fst, p17.snd + 2) (.sl) fun s18 =>
          .load (a0.fst, a0.snd + 6) (.int .i64) fun i19 =>
          .ite ((↑s18.snd.fst : Int) == i19)
          (.done (.exit 0) [])
          (.nonnil (y5.fst) fun p20 =>
            .load (p20.fst, p20.snd + 2) (.sl) fun s21 =>
            .nonnil (y5.fst) fun p22 =>
            .load (p22.fst, p22.snd + 2) (.sl) fun s23 =>
            .guard (InK IntKind.i64 ((↑s23.snd.fst : Int) - 1)) <|
            .load (a0.fst, a0.snd + 4) (.int .i64) fun i24 =>
            .load (a0.fst, a0.snd + 5) (.str) fun i25 =>
            .nonnil (s21.fst) fun p26 =>
            .guard (((0 : Int) ≤ (↑s23.snd.fst : Int) - 1) ∧ (((↑s23.snd.fst : Int) - 1 : Int) < (↑s21.snd.fst : Int))) <|
            .store (p26.fst, p26.snd + mulN ((↑s23.snd.fst : Int) - 1).toNat 2) (.int .i64 (i24)) <|
            .store (p26.fst, p26.snd + mulN ((↑s23.snd.fst : Int) - 1).toNat 2 + 1) (.str (i25)) <|
            .nonnil (y5.fst) fun p27 =>
            .load (p27.fst, p27.snd + 2) (.sl) fun s28 =>
            .nonnil (y5.fst) fun p29 =>
            .load (p29.fst, p29.snd + 2) (.sl) fun s30 =>
            .guard (InK IntKind.i64 ((↑s30.snd.fst : Int) - 1)) <|
            .guard (((0 : Int) ≤ (↑s30.snd.fst : Int) - 1) ∧ (((↑s30.snd.fst : Int) - 1 : Int) ≤ (↑s28.snd.snd : Int))) <|
            .nonnil (y5.fst) fun p31 =>
            .store (p31.fst, p31.snd + 2) (.sl (slBase s28.fst s28.snd.snd 0 2) (((↑s30.snd.fst : Int) - 1).toNat - 0) (s28.snd.snd - 0)) <|
            .load (a0.fst, a0.snd + 3) (.int .i64) fun i32 =>
            .guard (InK IntKind.i64 (i32 - 1)) <|
            .store (a0.fst, a0.snd + 3) (.int .i64 (i32 - 1)) <|
            .load (a0.fst, a0.snd + 3) (.int .i64) fun i33 =>
            .bind none (.ite (i33 == 0)
              (.store (a0.fst, a0.snd + 2) (.ptr none) <|
                .done .normal [])
              (.done .normal [])) [] fun x34 =>
            .load (n4, 1) (.str) fun i35 =>
            .load (n4, 0) (.int .i64) fun i36 =>
            .done .ret [.c (.str (i35)), .c (.int .i64 (i36)), .c (.tt)]))
        (.nonnil (y5.fst) fun p37 =>
          .load (p37.fst, p37.snd + 3) (.ptr) fun q38 =>
          .nonnil (q38) fun p39 =>
          .load p39 (.sl) fun s40 =>
          .nonnil (y5.fst) fun p41 =>
          .load (p41.fst, p41.snd + 3) (.ptr) fun q42 =>
          .nonnil (q42) fun p43 =>
          .load p43 (.sl) fun s44 =>
          .guard (InK IntKind.i64 ((↑s44.snd.fst : Int) - 1)) <|
          .nonnil (s40.fst) fun p45 =>
          .guard (((0 : Int) ≤ (↑s44.snd.fst : Int) - 1) ∧ (((↑s44.snd.fst : Int) - 1 : Int) < (↑s40.snd.fst : Int))) <|
          .call fn_mw_isoLoad [.c (.addr a0), .c (.addr (p45.fst, p45.snd + ((↑s44.snd.fst : Int) - 1).toNat)), .c (.tt)] false [.c (.ptr)] fun r46 =>
          .done .normal [.c (.ptr (r46.fst))])) [] fun x47 =>
    .load (a0.fst, a0.snd + 2) (.ptr) fun q48 =>
    .bind (some 2) (.loop [.c (.ptr)] [.c (.ptr (q48))] fun y49 =>
        .nonnil (y49.fst) fun p50 =>
        .load (p50.fst, p50.snd + 1) (.int .i64) fun i51 =>
        .guard (InK IntKind.i64 (i51 + 1)) <|
        .nonnil (y49.fst) fun p52 =>
        .store (p52.fst, p52.snd + 1) (.int .i64 (i51 + 1)) <|
        .call fn_nw_leaf [.c (.ptr (y49.fst))] false [.c (.bool)] fun r53 =>
        .ite (r53.fst)
        (.done (.exit 2) [])
        (.nonnil (y49.fst) fun p54 =>
          .load (p54.fst, p54.snd + 3) (.ptr) fun q55 =>
          .nonnil (q55) fun p56 =>
          .load p56 (.sl) fun s57 =>
          .nonnil (y49.fst) fun p58 =>
          .load (p58.fst, p58.snd + 3) (.ptr) fun q59 =>
          .nonnil (q59) fun p60 =>
          .load p60 (.sl) fun s61 =>
          .guard (InK IntKind.i64 ((↑s61.snd.fst : Int) - 1)) <|
          .nonnil (s57.fst) fun p62 =>
          .guard (((0 : Int) ≤ (↑s61.snd.fst : Int) - 1) ∧ (((↑s61.snd.fst : Int) - 1 : Int) < (↑s57.snd.fst : Int))) <|
          .load (p62.fst, p62.snd + ((↑s61.snd.fst : Int) - 1).toNat) (.ptr) fun q63 =>
          .done .normal [.c (.ptr (q63))])) [] fun x64 =>
    .load (n4, 1) (.str) fun i65 =>
    .call fn_mw_Delete [.c (.addr a0), .c (.str (i65))] true [.c (.int .i64), .c (.bool)] fun r66 =>
    .ite (r66.snd.fst)
    (.load (n4, 1) (.str) fun i67 =>
      .done .ret [.c (.str (i67)), .c (.int .i64 (r66.fst)), .c (.tt)])
    (.load (a0.fst, a0.snd + 5) (.str) fun i68 =>
      .load (a0.fst, a0.snd + 4) (.int .i64) fun i69 =>
      .done .ret [.c (.str (i68)), .c (.int .i64 (i69)), .c (.ff)]))
theorem den_mw_PopMax (a0 : PA) : denFn Try.prog Try.f113 [.c (.addr a0)] = M_mw_PopMax a0 := by kernel_rfl
theorem hc_mw_PopMax (a0 : PA) {h : H} {R : Value → H → Prop} (hw : wp Try.prog (M_mw_PopMax a0) (Ret R) h) : HC Try.prog fn_mw_PopMax (List.map AV.val [.c (.addr a0)]).toArray h R :=
  den_calls hmix Try.func113 (of_decide_eq_true rfl) (by rw [den_mw_PopMax]; exact hw)
def M_mw_PopMin (a0 : PA) : M :=
  .load (a0.fst, a0.snd + 2) (.ptr) fun q0 =>
  .ite (Option.isNone q0)
  (.load (a0.fst, a0.snd + 5) (.str) fun i1 =>
    .load (a0.fst, a0.snd + 4) (.int .i64) fun i2 =>
    .done .ret [.c (.str (i1)), .c (.int .i64 (i2)), .c (.ff)])
  (.call fn_mw_isoLoad [.c (.addr a0), .c (.addr (a0.fst, a0.snd + 2)), .c (.tt)] false [.c (.ptr)] fun r3 =>
    .alloc ty_btree_mapPair_string_int [.int .i64 (0), .str ({ data := #[] })] fun n4 =>
    .bind (some 0) (.loop [.c (.ptr)] [.c (.ptr (r3.fst))] fun y5 =>
        .nonnil (y5.fst) fun p6 =>
        .load (p6.fst, p6.snd + 1) (.int .i64) fun i7 =>
        .guard (InK IntKind.i64 (i7 - 1)) <|
        .nonnil (y5.fst) fun p8 =>
        .store (p8.fst, p8.snd + 1) (.int .i64 (i7 - 1)) <|
        .call fn_nw_leaf [.c (.ptr (y5.fst))] false [.c (.bool)] fun r9 =>
        .ite (r9.fst)
        (.nonnil (y5.fst) fun p10 =>
          .load (p10.fst, p10.snd + 2) (.sl) fun s11 =>
          .nonnil (s11.fst) fun p12 =>
          .guard (((0 : Int) ≤ 0) ∧ ((0 : Int) < (↑s11.snd.fst : Int))) <|
          .load (p12.fst, p12.snd) (.int .i64) fun i13 =>
          .load (p12.fst, p12.snd + 1) (.str) fun i14 =>
          .store (n4, 0) (.int .i64 (i13)) <|
          .store (n4, 1) (.str (i14)) <|
          .nonnil (y5.fst) fun p15 =>
          .load (p15.fst, p15.snd + 2) (.sl) fun s16 =>
          .load (a0.fst, a0.snd + 6) (.int .i64) fun i17 =>
          .ite ((↑s16.snd.fst : Int) == i17)
          (.done (.exit 0) [])
          (.nonnil (y5.fst) fun p18 =>
            .load (p18.fst, p18.snd + 2) (.sl) fun s19 =>
            .nonnil (y5.fst) fun p20 =>
            .load (p20.fst, p20.snd + 2) (.sl) fun s21 =>
            .guard (((0 : Int) ≤ 1) ∧ ((1 : Int) ≤ (↑s21.snd.fst : Int))) <|
            .copy 2 ((slBase s19.fst s19.snd.snd 0 2), s19.snd.fst - 0, s19.snd.snd - 0) ((slBase s21.fst s21.snd.snd 1 2), s21.snd.fst - 1, s21.snd.snd - 1) fun m22 =>
            .nonnil (y5.fst) fun p23 =>
            .load (p23.fst, p23.snd + 2) (.sl) fun s24 =>
            .nonnil (y5.fst) fun p25 =>
            .load (p25.fst, p25.snd + 2) (.sl) fun s26 =>
            .guard (InK IntKind.i64 ((↑s26.snd.fst : Int) - 1)) <|
            .load (a0.fst, a0.snd + 4) (.int .i64) fun i27 =>
            .load (a0.fst, a0.snd + 5) (.str) fun i28 =>
            .nonnil (s24.fst) fun p29 =>
            .guard (((0 : Int) ≤ (↑s26.snd.fst : Int) - 1) ∧ (((↑s26.snd.fst : Int) - 1 : Int) < (↑s24.snd.fst : Int))) <|
            .store (p29.fst, p29.snd + mulN ((↑s26.snd.fst : Int) - 1).toNat 2) (.int .i64 (i27)) <|
            .store (p29.fst, p29.snd + mulN ((↑s26.snd.fst : Int) - 1).toNat 2 + 1) (.str (i28)) <|
            .nonnil (y5.fst) fun p30 =>
            .load (p30.fst, p30.snd + 2) (.sl) fun s31 =>
            .nonnil (y5.fst) fun p32 =>
            .load (p32.fst, p32.snd + 2) (.sl) fun s33 =>
            .guard (InK IntKind.i64 ((↑s33.snd.fst : Int) - 1)) <|
            .guard (((0 : Int) ≤ (↑s33.snd.fst : Int) - 1) ∧ (((↑s33.snd.fst : Int) - 1 : Int) ≤ (↑s31.snd.snd : Int))) <|
            .nonnil (y5.fst) fun p34 =>
            .store (p34.fst, p34.snd + 2) (.sl (slBase s31.fst s31.snd.snd 0 2) (((↑s33.snd.fst : Int) - 1).toNat - 0) (s31.snd.snd - 0)) <|
            .load (a0.fst, a0.snd + 3) (.int .i64) fun i35 =>
            .guard (InK IntKind.i64 (i35 - 1)) <|
            .store (a0.fst, a0.snd + 3) (.int .i64 (i35 - 1)) <|
            .load (a0.fst, a0.snd + 3) (.int .i64) fun i36 =>
            .bind none (.ite (i36 == 0)
              (.store (a0.fst, a0.snd + 2) (.ptr none) <|
                .done .normal [])
              (.done .normal [])) [] fun x37 =>
            .load (n4, 1) (.str) fun i38 =>
            .load (n4, 0) (.int .i64) fun i39 =>
            .done .ret [.c (.str (i38)), .c (.int .i64 (i39)), .c (.tt)]))
        (.nonnil (y5.fst) fun p40 =>
          .load (p40.fst, p40.snd + 3) (.ptr) fun q41 =>
          .nonnil (q41) fun p42 =>
          .load p42 (.sl) fun s43 =>
          .nonnil (s43.fst) fun p44 =>
          .guard (((0 : Int) ≤ 0) ∧ ((0 : Int) < (↑s43.snd.fst : Int))) <|
          .call fn_mw_isoLoad [.c (.addr a0), .c (.addr (p44.fst, p44.snd)), .c (.tt)] false [.c (.ptr)] fun r45 =>
          .done .normal [.c (.ptr (r45.fst))])) [] fun x46 =>
    .load (a0.fst, a0.snd + 2) (.ptr) fun q47 =>
    .bind (some 2) (.loop [.c (.ptr)] [.c (.ptr (q47))] fun y48 =>
        .nonnil (y48.fst) fun p49 =>
        .load (p49.fst, p49.snd + 1) (.int .i64) fun i50 =>
        .guard (InK IntKind.i64 (i50 + 1)) <|
        .nonnil (y48.fst) fun p51 =>
        .store (p51.fst, p51.snd + 1) (.int .i64 (i50 + 1)) <|
        .call fn_nw_leaf [.c (.ptr (y48.fst))] false [.c (.bool)] fun r52 =>
        .ite (r52.fst)
        (.done (.exit 2) [])
        (.nonnil (y48.fst) fun p53 =>
          .load (p53.fst, p53.snd + 3) (.ptr) fun q54 =>
          .nonnil (q54) fun p55 =>
          .load p55 (.sl) fun s56 =>
          .nonnil (s56.fst) fun p57 =>
          .guard (((0 : Int) ≤ 0) ∧ ((0 : Int) < (↑s56.snd.fst : Int))) <|
          .load (p57.fst, p57.snd) (.ptr) fun q58 =>
          .done .normal [.c (.ptr (q58))])) [] fun x59 =>
    .load (n4, 1) (.str) fun i60 =>
    .call fn_mw_Delete [.c (.addr a0), .c (.str (i60))] true [.c (.int .i64), .c (.bool)] fun r61 =>
    .ite (r61.snd.fst)
    (.load (n4, 1) (.str) fun i62 =>
      .done .ret [.c (.str (i62)), .c (.int .i64 (r61.fst)), .c (.tt)])
    (.load (a0.fst, a0.snd + 5) (.str) fun i63 =>
      .load (a0.fst, a0.snd + 4) (.int .i64) fun i64 =>
      .done .ret [.c (.str (i63)), .c (.int .i64 (i64)), .c (.ff)]))
theorem den_mw_PopMin (a0 : PA) : denFn Try.prog Try.f114 [.c (.addr a0)] = M_mw_PopMin a0 := by kernel_rfl
theorem hc_mw_PopMin (a0 : PA) {h : H} {R : Value → H → Prop} (hw : wp Try.prog (M_mw_PopMin a0) (Ret R) h) : HC Try.prog fn_mw_PopMin (List.map AV.val [.c (.addr a0)]).toArray h R :=
  den_calls hmix Try.func114 (of_decide_eq_true rfl) (by rw [den_mw_PopMin]; exact hw)
end Go.Proofs.Ytgniflegbdeokaa
