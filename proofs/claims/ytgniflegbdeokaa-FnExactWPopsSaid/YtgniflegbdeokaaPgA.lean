/-
  Functions of the translation as typed programs, and that each is its function's reading. Written by a program of ours (gen2.py). Conditions: none.
-/
import Derived.Test.YtgniflegbdeokaaNm
namespace Go.Proofs.Ytgniflegbdeokaa
open Go
set_option maxRecDepth 100000
set_option linter.unusedVariables false
def M_NewMap_string_int (a0 : Int) : M :=
  .alloc ty_btree_Map_string_int [.int .u64 (0), .ptr none, .ptr none, .int .i64 (0), .int .i64 (0), .str ({ data := #[] }), .int .i64 (0), .int .i64 (0), .ff, .ff] fun n0 =>
  .call fn_mw_init [.c (.addr (n0, 0)), .c (.int .i64 (a0))] true [] fun r1 =>
  .done .ret [.c (.addr (n0, 0))]
theorem den_NewMap_string_int (a0 : Int) : denFn Try.prog Try.f103 [.c (.int .i64 a0)] = M_NewMap_string_int a0 := by kernel_rfl
theorem hc_NewMap_string_int (a0 : Int) {h : H} {R : Value → H → Prop} (hw : wp Try.prog (M_NewMap_string_int a0) (Ret R) h) : HC Try.prog fn_NewMap_string_int (List.map AV.val [.c (.int .i64 a0)]).toArray h R :=
  den_calls hmix Try.func103 (of_decide_eq_true rfl) (by rw [den_NewMap_string_int]; exact hw)
def M_degreeToMinMax (a0 : Int) : M :=
  .bind none (.ite (decide (a0 ≤ 0))
    (.done .normal [.c (.int .i64 (32))])
    (.bind none (.ite (a0 == 1)
        (.done .normal [.c (.int .i64 (2))])
        (.done .normal [.c (.int .i64 (a0))])) [.c (.int .i64)] fun x0 =>
      .done .normal [.c (.int .i64 (x0.fst))])) [.c (.int .i64)] fun x1 =>
  .guard (InK IntKind.i64 (x1.fst * 2)) <|
  .guard (InK IntKind.i64 (x1.fst * 2 - 1)) <|
  .guard (((2 : Int) ≠ 0) ∧ (InK IntKind.i64 ((x1.fst * 2 - 1).tdiv 2))) <|
  .done .ret [.c (.int .i64 ((x1.fst * 2 - 1).tdiv 2)), .c (.int .i64 (x1.fst * 2 - 1))]
theorem den_degreeToMinMax (a0 : Int) : denFn Try.prog Try.f148 [.c (.int .i64 a0)] = M_degreeToMinMax a0 := by kernel_rfl
theorem hc_degreeToMinMax (a0 : Int) {h : H} {R : Value → H → Prop} (hw : wp Try.prog (M_degreeToMinMax a0) (Ret R) h) : HC Try.prog fn_degreeToMinMax (List.map AV.val [.c (.int .i64 a0)]).toArray h R :=
  den_calls hmix Try.func148 (of_decide_eq_true rfl) (by rw [den_degreeToMinMax]; exact hw)
def M_mw_Set (a0 : PA) (a1 : ByteArray) (a2 : Int) : M :=
  .alloc ty_btree_mapPair_string_int [.int .i64 (0), .str ({ data := #[] })] fun n0 =>
  .store (n0, 0) (.int .i64 (a2)) <|
  .store (n0, 1) (.str (a1)) <|
  .load (a0.fst, a0.snd + 2) (.ptr) fun q1 =>
  .ite (Option.isNone q1)
  (.call fn_mw_init [.c (.addr a0), .c (.int .i64 (0))] true [] fun r2 =>
    .call fn_mw_newNode [.c (.addr a0), .c (.tt)] false [.c (.ptr)] fun r3 =>
    .store (a0.fst, a0.snd + 2) (.ptr (r3.fst)) <|
    .bind none (.load (a0.fst, a0.snd + 2) (.ptr) fun q4 =>
      .load (n0, 0) (.int .i64) fun i5 =>
      .load (n0, 1) (.str) fun i6 =>
      .both
      (.alloc ty_btree_mapPair_string_int [] fun n7 =>
        .held (n0, 0) (.int .i64 (i5)) <|
        .held (n0, 1) (.str (i6)) <|
        .held (a0.fst, a0.snd + 2) (.ptr (q4)) <|
        .alloc ty_btree_mapPair_string_int [.int .i64 (i5), .str (i6)] fun n8 =>
        .held (a0.fst, a0.snd + 2) (.ptr (q4)) <|
        .append ty_btree_mapPair_string_int 2 24 [.int .i64 (0), .str ({ data := #[] })] ((some (n7, 0)), 0, 0) ((some (n8, 0)), 1, 1) fun s9 =>
        .held (a0.fst, a0.snd + 2) (.ptr (q4)) <|
        .nonnil (q4) fun p10 =>
        .store (p10.fst, p10.snd + 2) (.sl (s9.fst) (s9.snd.fst) (s9.snd.snd)) <|
        .done .normal [])
      (.alloc ty_btree_mapPair_string_int [.int .i64 (i5), .str (i6)] fun n11 =>
        .held (a0.fst, a0.snd + 2) (.ptr (q4)) <|
        .alloc ty_btree_mapPair_string_int [] fun n12 =>
        .held (a0.fst, a0.snd + 2) (.ptr (q4)) <|
        .append ty_btree_mapPair_string_int 2 24 [.int .i64 (0), .str ({ data := #[] })] ((some (n12, 0)), 0, 0) ((some (n11, 0)), 1, 1) fun s13 =>
        .held (a0.fst, a0.snd + 2) (.ptr (q4)) <|
        .nonnil (q4) fun p14 =>
        .store (p14.fst, p14.snd + 2) (.sl (s13.fst) (s13.snd.fst) (s13.snd.snd)) <|
        .done .normal [])) [] fun x15 =>
    .load (a0.fst, a0.snd + 2) (.ptr) fun q16 =>
    .nonnil (q16) fun p17 =>
    .store (p17.fst, p17.snd + 1) (.int .i64 (1)) <|
    .store (a0.fst, a0.snd + 3) (.int .i64 (1)) <|
    .load (a0.fst, a0.snd + 4) (.int .i64) fun i18 =>
    .done .ret [.c (.int .i64 (i18)), .c (.ff)])
  (.load (n0, 0) (.int .i64) fun i19 =>
    .load (n0, 1) (.str) fun i20 =>
    .call fn_mw_nodeSet [.c (.addr a0), .c (.addr (a0.fst, a0.snd + 2)), .agg [.int .i64 (i19), .str (i20)]] true [.c (.int .i64), .c (.bool), .c (.bool)] fun r21 =>
    .ite (r21.snd.snd.fst)
    (.load (a0.fst, a0.snd + 2) (.ptr) fun q22 =>
      .call fn_mw_nodeSplit [.c (.addr a0), .c (.ptr (q22))] true [.c (.ptr), .agg [.int .i64, .str]] fun r23 =>
      .alloc ty_btree_mapPair_string_int [.int .i64 (0), .str ({ data := #[] })] fun n24 =>
      .store (n24, 0) (.int .i64 (r23.snd.fst.fst)) <|
      .store (n24, 1) (.str (r23.snd.fst.snd.fst)) <|
      .call fn_mw_newNode [.c (.addr a0), .c (.ff)] false [.c (.ptr)] fun r25 =>
      .store (a0.fst, a0.snd + 2) (.ptr (r25.fst)) <|
      .load (a0.fst, a0.snd + 2) (.ptr) fun q26 =>
      .nonnil (q26) fun p27 =>
      .load (p27.fst, p27.snd + 3) (.ptr) fun q28 =>
      .load (a0.fst, a0.snd + 7) (.int .i64) fun i29 =>
      .guard (InK IntKind.i64 (i29 + 1)) <|
      .make ty_p_btree_mapNode_string_int 1 8 [.ptr none] (0) (i29 + 1) fun s30 =>
      .held (p27.fst, p27.snd + 3) (.ptr (q28)) <|
      .held (a0.fst, a0.snd + 2) (.ptr (q26)) <|
      .nonnil (q28) fun p31 =>
      .store p31 (.sl (s30.fst) (s30.snd.fst) (s30.snd.snd)) <|
      .bind none (.load (a0.fst, a0.snd + 2) (.ptr) fun q32 =>
        .nonnil (q32) fun p33 =>
        .load (p33.fst, p33.snd + 3) (.ptr) fun q34 =>
        .both
        (.alloc ty_p_btree_mapNode_string_int [] fun n35 =>
          .held (p33.fst, p33.snd + 3) (.ptr (q34)) <|
          .held (a0.fst, a0.snd + 2) (.ptr (q32)) <|
          .alloc ty_p_btree_mapNode_string_int [.ptr (q22), .ptr (r23.fst)] fun n36 =>
          .held (p33.fst, p33.snd + 3) (.ptr (q34)) <|
          .held (a0.fst, a0.snd + 2) (.ptr (q32)) <|
          .append ty_p_btree_mapNode_string_int 1 8 [.ptr none] ((some (n35, 0)), 0, 0) ((some (n36, 0)), 2, 2) fun s37 =>
          .held (p33.fst, p33.snd + 3) (.ptr (q34)) <|
          .held (a0.fst, a0.snd + 2) (.ptr (q32)) <|
          .nonnil (q34) fun p38 =>
          .store p38 (.sl (s37.fst) (s37.snd.fst) (s37.snd.snd)) <|
          .done .normal [])
        (.alloc ty_p_btree_mapNode_string_int [.ptr (q22), .ptr (r23.fst)] fun n39 =>
          .held (p33.fst, p33.snd + 3) (.ptr (q34)) <|
          .held (a0.fst, a0.snd + 2) (.ptr (q32)) <|
          .alloc ty_p_btree_mapNode_string_int [] fun n40 =>
          .held (p33.fst, p33.snd + 3) (.ptr (q34)) <|
          .held (a0.fst, a0.snd + 2) (.ptr (q32)) <|
          .append ty_p_btree_mapNode_string_int 1 8 [.ptr none] ((some (n40, 0)), 0, 0) ((some (n39, 0)), 2, 2) fun s41 =>
          .held (p33.fst, p33.snd + 3) (.ptr (q34)) <|
          .held (a0.fst, a0.snd + 2) (.ptr (q32)) <|
          .nonnil (q34) fun p42 =>
          .store p42 (.sl (s41.fst) (s41.snd.fst) (s41.snd.snd)) <|
          .done .normal [])) [] fun x43 =>
      .bind none (.load (a0.fst, a0.snd + 2) (.ptr) fun q44 =>
        .load (n24, 0) (.int .i64) fun i45 =>
        .load (n24, 1) (.str) fun i46 =>
        .both
        (.alloc ty_btree_mapPair_string_int [] fun n47 =>
          .held (n24, 0) (.int .i64 (i45)) <|
          .held (n24, 1) (.str (i46)) <|
          .held (a0.fst, a0.snd + 2) (.ptr (q44)) <|
          .alloc ty_btree_mapPair_string_int [.int .i64 (i45), .str (i46)] fun n48 =>
          .held (a0.fst, a0.snd + 2) (.ptr (q44)) <|
          .append ty_btree_mapPair_string_int 2 24 [.int .i64 (0), .str ({ data := #[] })] ((some (n47, 0)), 0, 0) ((some (n48, 0)), 1, 1) fun s49 =>
          .held (a0.fst, a0.snd + 2) (.ptr (q44)) <|
          .nonnil (q44) fun p50 =>
          .store (p50.fst, p50.snd + 2) (.sl (s49.fst) (s49.snd.fst) (s49.snd.snd)) <|
          .done .normal [])
        (.alloc ty_btree_mapPair_string_int [.int .i64 (i45), .str (i46)] fun n51 =>
          .held (a0.fst, a0.snd + 2) (.ptr (q44)) <|
          .alloc ty_btree_mapPair_string_int [] fun n52 =>
          .held (a0.fst, a0.snd + 2) (.ptr (q44)) <|
          .append ty_btree_mapPair_string_int 2 24 [.int .i64 (0), .str ({ data := #[] })] ((some (n52, 0)), 0, 0) ((some (n51, 0)), 1, 1) fun s53 =>
          .held (a0.fst, a0.snd + 2) (.ptr (q44)) <|
          .nonnil (q44) fun p54 =>
          .store (p54.fst, p54.snd + 2) (.sl (s53.fst) (s53.snd.fst) (s53.snd.snd)) <|
          .done .normal [])) [] fun x55 =>
      .load (a0.fst, a0.snd + 2) (.ptr) fun q56 =>
      .call fn_nw_updateCount [.c (.ptr (q56))] true [] fun r57 =>
      .load (n0, 1) (.str) fun i58 =>
      .load (n0, 0) (.int .i64) fun i59 =>
      .call fn_mw_Set [.c (.addr a0), .c (.str (i58)), .c (.int .i64 (i59))] true [.c (.int .i64), .c (.bool)] fun r60 =>
      .done .ret [.c (.int .i64 (r60.fst)), .c (.bool (r60.snd.fst))])
    (.ite (r21.snd.fst)
      (.done .ret [.c (.int .i64 (r21.fst)), .c (.tt)])
      (.load (a0.fst, a0.snd + 3) (.int .i64) fun i61 =>
        .guard (InK IntKind.i64 (i61 + 1)) <|
        .store (a0.fst, a0.snd + 3) (.int .i64 (i61 + 1)) <|
        .load (a0.fst, a0.snd + 4) (.int .i64) fun i62 =>
        .done .ret [.c (.int .i64 (i62)), .c (.ff)])))
theorem den_mw_Set (a0 : PA) (a1 : ByteArray) (a2 : Int) : denFn Try.prog Try.f104 [.c (.addr a0), .c (.str a1), .c (.int .i64 a2)] = M_mw_Set a0 a1 a2 := by kernel_rfl
theorem hc_mw_Set (a0 : PA) (a1 : ByteArray) (a2 : Int) {h : H} {R : Value → H → Prop} (hw : wp Try.prog (M_mw_Set a0 a1 a2) (Ret R) h) : HC Try.prog fn_mw_Set (List.map AV.val [.c (.addr a0), .c (.str a1), .c (.int .i64 a2)]).toArray h R :=
  den_calls hmix Try.func104 (of_decide_eq_true rfl) (by rw [den_mw_Set]; exact hw)
def M_mw_init (a0 : PA) (a1 : Int) : M :=
  .load (a0.fst, a0.snd + 6) (.int .i64) fun i0 =>
  .ite (i0 != 0)
  (.done .ret [])
  (.call fn_degreeToMinMax [.c (.int .i64 (a1))] true [.c (.int .i64), .c (.int .i64)] fun r1 =>
    .store (a0.fst, a0.snd + 6) (.int .i64 (r1.fst)) <|
    .store (a0.fst, a0.snd + 7) (.int .i64 (r1.snd.fst)) <|
    .load (a0.fst, a0.snd + 4) (.int .i64) fun i2 =>
    .guard (noMeths Try.prog (Value.iface ty_int (AV.c ((Sh1.int IntKind.i64).mk i2)).val)) <|
    .store (a0.fst, a0.snd + 8) (.ff) <|
    .load (a0.fst, a0.snd + 8) (.bool) fun b3 =>
    .bind none (.ite (!b3)
      (.load (a0.fst, a0.snd + 4) (.int .i64) fun i4 =>
        .guard (noMeths Try.prog (Value.iface ty_int (AV.c ((Sh1.int IntKind.i64).mk i4)).val)) <|
        .store (a0.fst, a0.snd + 9) (.ff) <|
        .done .normal [])
      (.done .normal [])) [] fun x5 =>
    .done .ret [])
theorem den_mw_init (a0 : PA) (a1 : Int) : denFn Try.prog Try.f132 [.c (.addr a0), .c (.int .i64 a1)] = M_mw_init a0 a1 := by kernel_rfl
theorem hc_mw_init (a0 : PA) (a1 : Int) {h : H} {R : Value → H → Prop} (hw : wp Try.prog (M_mw_init a0 a1) (Ret R) h) : HC Try.prog fn_mw_init (List.map AV.val [.c (.addr a0), .c (.int .i64 a1)]).toArray h R :=
  den_calls hmix Try.func132 (of_decide_eq_true rfl) (by rw [den_mw_init]; exact hw)
def M_mw_isoLoad (a0 : PA) (a1 : PA) (a2 : Bool) : M :=
  .bind none (.ite (a2)
    (.load a1 (.ptr) fun q0 =>
      .nonnil (q0) fun p1 =>
      .load (p1.fst, p1.snd) (.int .u64) fun i2 =>
      .load (a0.fst, a0.snd) (.int .u64) fun i3 =>
      .done .normal [.c (.bool (i2 != i3))])
    (.done .normal [.c (.ff)])) [.c (.bool)] fun x4 =>
  .bind none (.ite (x4.fst)
    (.load a1 (.ptr) fun q5 =>
      .call fn_mw_copy [.c (.addr a0), .c (.ptr (q5))] false [.c (.ptr)] fun r6 =>
      .store a1 (.ptr (r6.fst)) <|
      .done .normal [])
    (.done .normal [])) [] fun x7 =>
  .load a1 (.ptr) fun q8 =>
  .done .ret [.c (.ptr (q8))]
theorem den_mw_isoLoad (a0 : PA) (a1 : PA) (a2 : Bool) : denFn Try.prog Try.f141 [.c (.addr a0), .c (.addr a1), .c (.bool a2)] = M_mw_isoLoad a0 a1 a2 := by kernel_rfl
theorem hc_mw_isoLoad (a0 : PA) (a1 : PA) (a2 : Bool) {h : H} {R : Value → H → Prop} (hw : wp Try.prog (M_mw_isoLoad a0 a1 a2) (Ret R) h) : HC Try.prog fn_mw_isoLoad (List.map AV.val [.c (.addr a0), .c (.addr a1), .c (.bool a2)]).toArray h R :=
  den_calls hmix Try.func141 (of_decide_eq_true rfl) (by rw [den_mw_isoLoad]; exact hw)
def M_mw_newNode (a0 : PA) (a1 : Bool) : M :=
  .alloc ty_btree_mapNode_string_int [.int .u64 (0), .int .i64 (0), .sl none (0) (0), .ptr none] fun n0 =>
  .load (a0.fst, a0.snd) (.int .u64) fun i1 =>
  .store (n0, 0) (.int .u64 (i1)) <|
  .bind none (.ite (!a1)
    (.alloc ty_sl_p_btree_mapNode_string_int [.sl none (0) (0)] fun n2 =>
      .store (n0, 3) (.addr (n2, 0)) <|
      .done .normal [])
    (.done .normal [])) [] fun x3 =>
  .done .ret [.c (.addr (n0, 0))]
theorem den_mw_newNode (a0 : PA) (a1 : Bool) : denFn Try.prog Try.f133 [.c (.addr a0), .c (.bool a1)] = M_mw_newNode a0 a1 := by kernel_rfl
theorem hc_mw_newNode (a0 : PA) (a1 : Bool) {h : H} {R : Value → H → Prop} (hw : wp Try.prog (M_mw_newNode a0 a1) (Ret R) h) : HC Try.prog fn_mw_newNode (List.map AV.val [.c (.addr a0), .c (.bool a1)]).toArray h R :=
  den_calls hmix Try.func133 (of_decide_eq_true rfl) (by rw [den_mw_newNode]; exact hw)
def M_mw_nodeSet (a0 : PA) (a1 : PA) (a20 : Int) (a21 : ByteArray) : M :=
  .alloc ty_btree_mapPair_string_int [.int .i64 (a20), .str (a21)] fun n0 =>
  .call fn_mw_isoLoad [.c (.addr a0), .c (.addr a1), .c (.tt)] false [.c (.ptr)] fun r1 =>
  .alloc ty_p_btree_mapNode_string_int [.ptr none] fun n2 =>
  .store (n2, 0) (.ptr (r1.fst)) <|
  .load (n2, 0) (.ptr) fun q3 =>
  .load (n0, 1) (.str) fun i4 =>
  .call fn_mw_search [.c (.addr a0), .c (.ptr (q3)), .c (.str (i4))] true [.c (.int .i64), .c (.bool)] fun r5 =>
  .ite (r5.snd.fst)
  (.load (n2, 0) (.ptr) fun q6 =>
    .nonnil (q6) fun p7 =>
    .load (p7.fst, p7.snd + 2) (.sl) fun s8 =>
    .nonnil (s8.fst) fun p9 =>
    .guard (((0 : Int) ≤ r5.fst) ∧ ((r5.fst : Int) < (↑s8.snd.fst : Int))) <|
    .load (p9.fst, p9.snd + mulN (Int.toNat r5.fst) 2) (.int .i64) fun i10 =>
    .load (n2, 0) (.ptr) fun q11 =>
    .nonnil (q11) fun p12 =>
    .load (p12.fst, p12.snd + 2) (.sl) fun s13 =>
    .load (n0, 0) (.int .i64) fun i14 =>
    .load (n0, 1) (.str) fun i15 =>
    .nonnil (s13.fst) fun p16 =>
    .guard (((0 : Int) ≤ r5.fst) ∧ ((r5.fst : Int) < (↑s13.snd.fst : Int))) <|
    .store (p16.fst, p16.snd + mulN (Int.toNat r5.fst) 2) (.int .i64 (i14)) <|
    .store (p16.fst, p16.snd + mulN (Int.toNat r5.fst) 2 + 1) (.str (i15)) <|
    .done .ret [.c (.int .i64 (i10)), .c (.tt), .c (.ff)])
  (.load (n2, 0) (.ptr) fun q17 =>
    .call fn_nw_leaf [.c (.ptr (q17))] false [.c (.bool)] fun r18 =>
    .ite (r18.fst)
    (.load (n2, 0) (.ptr) fun q19 =>
      .nonnil (q19) fun p20 =>
      .load (p20.fst, p20.snd + 2) (.sl) fun s21 =>
      .load (a0.fst, a0.snd + 7) (.int .i64) fun i22 =>
      .ite ((↑s21.snd.fst : Int) == i22)
      (.load (a0.fst, a0.snd + 4) (.int .i64) fun i23 =>
        .done .ret [.c (.int .i64 (i23)), .c (.ff), .c (.tt)])
      (.load (n2, 0) (.ptr) fun q24 =>
        .load (n2, 0) (.ptr) fun q25 =>
        .nonnil (q25) fun p26 =>
        .load (p26.fst, p26.snd + 2) (.sl) fun s27 =>
        .load (a0.fst, a0.snd + 4) (.int .i64) fun i28 =>
        .load (a0.fst, a0.snd + 5) (.str) fun i29 =>
        .alloc ty_btree_mapPair_string_int [.int .i64 (i28), .str (i29)] fun n30 =>
        .held (p26.fst, p26.snd + 2) (.sl (s27.fst) (s27.snd.fst) (s27.snd.snd)) <|
        .held (n2, 0) (.ptr (q25)) <|
        .held (n2, 0) (.ptr (q24)) <|
        .append ty_btree_mapPair_string_int 2 24 [.int .i64 (0), .str ({ data := #[] })] ((s27.fst), s27.snd.fst, s27.snd.snd) ((some (n30, 0)), 1, 1) fun s31 =>
        .held (n2, 0) (.ptr (q24)) <|
        .nonnil (q24) fun p32 =>
        .store (p32.fst, p32.snd + 2) (.sl (s31.fst) (s31.snd.fst) (s31.snd.snd)) <|
        .load (n2, 0) (.ptr) fun q33 =>
        .nonnil (q33) fun p34 =>
        .load (p34.fst, p34.snd + 2) (.sl) fun s35 =>
        .guard (InK IntKind.i64 (r5.fst + 1)) <|
        .guard (((0 : Int) ≤ r5.fst + 1) ∧ ((r5.fst + 1 : Int) ≤ (↑s35.snd.fst : Int))) <|
        .load (n2, 0) (.ptr) fun q36 =>
        .nonnil (q36) fun p37 =>
        .load (p37.fst, p37.snd + 2) (.sl) fun s38 =>
        .guard (((0 : Int) ≤ r5.fst) ∧ ((r5.fst : Int) ≤ (↑s38.snd.fst : Int))) <|
        .copy 2 ((slBase s35.fst s35.snd.snd (r5.fst + 1).toNat 2), s35.snd.fst - (r5.fst + 1).toNat, s35.snd.snd - (r5.fst + 1).toNat) ((slBase s38.fst s38.snd.snd (Int.toNat r5.fst) 2), s38.snd.fst - Int.toNat r5.fst, s38.snd.snd - Int.toNat r5.fst) fun m39 =>
        .load (n2, 0) (.ptr) fun q40 =>
        .nonnil (q40) fun p41 =>
        .load (p41.fst, p41.snd + 2) (.sl) fun s42 =>
        .load (n0, 0) (.int .i64) fun i43 =>
        .load (n0, 1) (.str) fun i44 =>
        .nonnil (s42.fst) fun p45 =>
        .guard (((0 : Int) ≤ r5.fst) ∧ ((r5.fst : Int) < (↑s42.snd.fst : Int))) <|
        .store (p45.fst, p45.snd + mulN (Int.toNat r5.fst) 2) (.int .i64 (i43)) <|
        .store (p45.fst, p45.snd + mulN (Int.toNat r5.fst) 2 + 1) (.str (i44)) <|
        .load (n2, 0) (.ptr) fun q46 =>
        .nonnil (q46) fun p47 =>
        .load (p47.fst, p47.snd + 1) (.int .i64) fun i48 =>
        .guard (InK IntKind.i64 (i48 + 1)) <|
        .nonnil (q46) fun p49 =>
        .store (p49.fst, p49.snd + 1) (.int .i64 (i48 + 1)) <|
        .load (a0.fst, a0.snd + 4) (.int .i64) fun i50 =>
        .done .ret [.c (.int .i64 (i50)), .c (.ff), .c (.ff)]))
    (.load (n2, 0) (.ptr) fun q51 =>
      .nonnil (q51) fun p52 =>
      .load (p52.fst, p52.snd + 3) (.ptr) fun q53 =>
      .nonnil (q53) fun p54 =>
      .load p54 (.sl) fun s55 =>
      .nonnil (s55.fst) fun p56 =>
      .guard (((0 : Int) ≤ r5.fst) ∧ ((r5.fst : Int) < (↑s55.snd.fst : Int))) <|
      .load (n0, 0) (.int .i64) fun i57 =>
      .load (n0, 1) (.str) fun i58 =>
      .call fn_mw_nodeSet [.c (.addr a0), .c (.addr (p56.fst, p56.snd + Int.toNat r5.fst)), .agg [.int .i64 (i57), .str (i58)]] true [.c (.int .i64), .c (.bool), .c (.bool)] fun r59 =>
      .ite (r59.snd.snd.fst)
      (.load (n2, 0) (.ptr) fun q60 =>
        .nonnil (q60) fun p61 =>
        .load (p61.fst, p61.snd + 2) (.sl) fun s62 =>
        .load (a0.fst, a0.snd + 7) (.int .i64) fun i63 =>
        .ite ((↑s62.snd.fst : Int) == i63)
        (.load (a0.fst, a0.snd + 4) (.int .i64) fun i64 =>
          .done .ret [.c (.int .i64 (i64)), .c (.ff), .c (.tt)])
        (.load (n2, 0) (.ptr) fun q65 =>
          .nonnil (q65) fun p66 =>
          .load (p66.fst, p66.snd + 3) (.ptr) fun q67 =>
          .nonnil (q67) fun p68 =>
          .load p68 (.sl) fun s69 =>
          .nonnil (s69.fst) fun p70 =>
          .guard (((0 : Int) ≤ r5.fst) ∧ ((r5.fst : Int) < (↑s69.snd.fst : Int))) <|
          .load (p70.fst, p70.snd + Int.toNat r5.fst) (.ptr) fun q71 =>
          .call fn_mw_nodeSplit [.c (.addr a0), .c (.ptr (q71))] true [.c (.ptr), .agg [.int .i64, .str]] fun r72 =>
          .alloc ty_btree_mapPair_string_int [.int .i64 (0), .str ({ data := #[] })] fun n73 =>
          .store (n73, 0) (.int .i64 (r72.snd.fst.fst)) <|
          .store (n73, 1) (.str (r72.snd.fst.snd.fst)) <|
          .load (n2, 0) (.ptr) fun q74 =>
          .nonnil (q74) fun p75 =>
          .load (p75.fst, p75.snd + 3) (.ptr) fun q76 =>
          .load (n2, 0) (.ptr) fun q77 =>
          .nonnil (q77) fun p78 =>
          .load (p78.fst, p78.snd + 3) (.ptr) fun q79 =>
          .nonnil (q79) fun p80 =>
          .load p80 (.sl) fun s81 =>
          .alloc ty_p_btree_mapNode_string_int [.ptr none] fun n82 =>
          .held p80 (.sl (s81.fst) (s81.snd.fst) (s81.snd.snd)) <|
          .held (p78.fst, p78.snd + 3) (.ptr (q79)) <|
          .held (n2, 0) (.ptr (q77)) <|
          .held (p75.fst, p75.snd + 3) (.ptr (q76)) <|
          .held (n2, 0) (.ptr (q74)) <|
          .append ty_p_btree_mapNode_string_int 1 8 [.ptr none] ((s81.fst), s81.snd.fst, s81.snd.snd) ((some (n82, 0)), 1, 1) fun s83 =>
          .held (p75.fst, p75.snd + 3) (.ptr (q76)) <|
          .held (n2, 0) (.ptr (q74)) <|
          .nonnil (q76) fun p84 =>
          .store p84 (.sl (s83.fst) (s83.snd.fst) (s83.snd.snd)) <|
          .load (n2, 0) (.ptr) fun q85 =>
          .nonnil (q85) fun p86 =>
          .load (p86.fst, p86.snd + 3) (.ptr) fun q87 =>
          .nonnil (q87) fun p88 =>
          .load p88 (.sl) fun s89 =>
          .guard (InK IntKind.i64 (r5.fst + 1)) <|
          .guard (((0 : Int) ≤ r5.fst + 1) ∧ ((r5.fst + 1 : Int) ≤ (↑s89.snd.fst : Int))) <|
          .load (n2, 0) (.ptr) fun q90 =>
          .nonnil (q90) fun p91 =>
          .load (p91.fst, p91.snd + 3) (.ptr) fun q92 =>
          .nonnil (q92) fun p93 =>
          .load p93 (.sl) fun s94 =>
          .guard (((0 : Int) ≤ r5.fst) ∧ ((r5.fst : Int) ≤ (↑s94.snd.fst : Int))) <|
          .copy 1 ((slBase s89.fst s89.snd.snd (r5.fst + 1).toNat 1), s89.snd.fst - (r5.fst + 1).toNat, s89.snd.snd - (r5.fst + 1).toNat) ((slBase s94.fst s94.snd.snd (Int.toNat r5.fst) 1), s94.snd.fst - Int.toNat r5.fst, s94.snd.snd - Int.toNat r5.fst) fun m95 =>
          .load (n2, 0) (.ptr) fun q96 =>
          .nonnil (q96) fun p97 =>
          .load (p97.fst, p97.snd + 3) (.ptr) fun q98 =>
          .nonnil (q98) fun p99 =>
          .load p99 (.sl) fun s100 =>
          .guard (InK IntKind.i64 (r5.fst + 1)) <|
          .nonnil (s100.fst) fun p101 =>
          .guard (((0 : Int) ≤ r5.fst + 1) ∧ ((r5.fst + 1 : Int) < (↑s100.snd.fst : Int))) <|
          .store (p101.fst, p101.snd + (r5.fst + 1).toNat) (.ptr (r72.fst)) <|
          .load (n2, 0) (.ptr) fun q102 =>
          .load (n2, 0) (.ptr) fun q103 =>
          .nonnil (q103) fun p104 =>
          .load (p104.fst, p104.snd + 2) (.sl) fun s105 =>
          .load (a0.fst, a0.snd + 4) (.int .i64) fun i106 =>
          .load (a0.fst, a0.snd + 5) (.str) fun i107 =>
          .alloc ty_btree_mapPair_string_int [.int .i64 (i106), .str (i107)] fun n108 =>
          .held (p104.fst, p104.snd + 2) (.sl (s105.fst) (s105.snd.fst) (s105.snd.snd)) <|
          .held (n2, 0) (.ptr (q103)) <|
          .held (n2, 0) (.ptr (q102)) <|
          .append ty_btree_mapPair_string_int 2 24 [.int .i64 (0), .str ({ data := #[] })] ((s105.fst), s105.snd.fst, s105.snd.snd) ((some (n108, 0)), 1, 1) fun s109 =>
          .held (n2, 0) (.ptr (q102)) <|
          .nonnil (q102) fun p110 =>
          .store (p110.fst, p110.snd + 2) (.sl (s109.fst) (s109.snd.fst) (s109.snd.snd)) <|
          .load (n2, 0) (.ptr) fun q111 =>
          .nonnil (q111) fun p112 =>
          .load (p112.fst, p112.snd + 2) (.sl) fun s113 =>
          .guard (InK IntKind.i64 (r5.fst + 1)) <|
          .guard (((0 : Int) ≤ r5.fst + 1) ∧ ((r5.fst + 1 : Int) ≤ (↑s113.snd.fst : Int))) <|
          .load (n2, 0) (.ptr) fun q114 =>
          .nonnil (q114) fun p115 =>
          .load (p115.fst, p115.snd + 2) (.sl) fun s116 =>
          .guard (((0 : Int) ≤ r5.fst) ∧ ((r5.fst : Int) ≤ (↑s116.snd.fst : Int))) <|
          .copy 2 ((slBase s113.fst s113.snd.snd (r5.fst + 1).toNat 2), s113.snd.fst - (r5.fst + 1).toNat, s113.snd.snd - (r5.fst + 1).toNat) ((slBase s116.fst s116.snd.snd (Int.toNat r5.fst) 2), s116.snd.fst - Int.toNat r5.fst, s116.snd.snd - Int.toNat r5.fst) fun m117 =>
          .load (n2, 0) (.ptr) fun q118 =>
          .nonnil (q118) fun p119 =>
          .load (p119.fst, p119.snd + 2) (.sl) fun s120 =>
          .load (n73, 0) (.int .i64) fun i121 =>
          .load (n73, 1) (.str) fun i122 =>
          .nonnil (s120.fst) fun p123 =>
          .guard (((0 : Int) ≤ r5.fst) ∧ ((r5.fst : Int) < (↑s120.snd.fst : Int))) <|
          .store (p123.fst, p123.snd + mulN (Int.toNat r5.fst) 2) (.int .i64 (i121)) <|
          .store (p123.fst, p123.snd + mulN (Int.toNat r5.fst) 2 + 1) (.str (i122)) <|
          .load (n0, 0) (.int .i64) fun i124 =>
          .load (n0, 1) (.str) fun i125 =>
          .call fn_mw_nodeSet [.c (.addr a0), .c (.addr (n2, 0)), .agg [.int .i64 (i124), .str (i125)]] true [.c (.int .i64), .c (.bool), .c (.bool)] fun r126 =>
          .done .ret [.c (.int .i64 (r126.fst)), .c (.bool (r126.snd.fst)), .c (.bool (r126.snd.snd.fst))]))
      (.bind none (.ite (!r59.snd.fst)
          (.load (n2, 0) (.ptr) fun q127 =>
            .nonnil (q127) fun p128 =>
            .load (p128.fst, p128.snd + 1) (.int .i64) fun i129 =>
            .guard (InK IntKind.i64 (i129 + 1)) <|
            .nonnil (q127) fun p130 =>
            .store (p130.fst, p130.snd + 1) (.int .i64 (i129 + 1)) <|
            .done .normal [])
          (.done .normal [])) [] fun x131 =>
        .done .ret [.c (.int .i64 (r59.fst)), .c (.bool (r59.snd.fst)), .c (.ff)])))
theorem den_mw_nodeSet (a0 : PA) (a1 : PA) (a20 : Int) (a21 : ByteArray) : denFn Try.prog Try.f134 [.c (.addr a0), .c (.addr a1), .agg [.int .i64 a20, .str a21]] = M_mw_nodeSet a0 a1 a20 a21 := by kernel_rfl
theorem hc_mw_nodeSet (a0 : PA) (a1 : PA) (a20 : Int) (a21 : ByteArray) {h : H} {R : Value → H → Prop} (hw : wp Try.prog (M_mw_nodeSet a0 a1 a20 a21) (Ret R) h) : HC Try.prog fn_mw_nodeSet (List.map AV.val [.c (.addr a0), .c (.addr a1), .agg [.int .i64 a20, .str a21]]).toArray h R :=
  den_calls hmix Try.func134 (of_decide_eq_true rfl) (by rw [den_mw_nodeSet]; exact hw)
def M_mw_nodeSplit (a0 : PA) (a1 : PA) : M :=
  .alloc ty_btree_mapPair_string_int [.int .i64 (0), .str ({ data := #[] })] fun n0 =>
  .load (a0.fst, a0.snd + 7) (.int .i64) fun i1 =>
  .guard (((2 : Int) ≠ 0) ∧ (InK IntKind.i64 (Int.tdiv i1 2))) <|
  .load (a1.fst, a1.snd + 2) (.sl) fun s2 =>
  .nonnil (s2.fst) fun p3 =>
  .guard (((0 : Int) ≤ Int.tdiv i1 2) ∧ ((Int.tdiv i1 2 : Int) < (↑s2.snd.fst : Int))) <|
  .load (p3.fst, p3.snd + mulN (Int.tdiv i1 2).toNat 2) (.int .i64) fun i4 =>
  .load (p3.fst, p3.snd + mulN (Int.tdiv i1 2).toNat 2 + 1) (.str) fun i5 =>
  .store (n0, 0) (.int .i64 (i4)) <|
  .store (n0, 1) (.str (i5)) <|
  .call fn_nw_leaf [.c (.addr a1)] false [.c (.bool)] fun r6 =>
  .call fn_mw_newNode [.c (.addr a0), .c (.bool (r6.fst))] false [.c (.ptr)] fun r7 =>
  .load (a1.fst, a1.snd + 2) (.sl) fun s8 =>
  .guard (InK IntKind.i64 (Int.tdiv i1 2 + 1)) <|
  .guard (((0 : Int) ≤ Int.tdiv i1 2 + 1) ∧ ((Int.tdiv i1 2 + 1 : Int) ≤ (↑s8.snd.fst : Int))) <|
  .nonnil (r7.fst) fun p9 =>
  .store (p9.fst, p9.snd + 2) (.sl (slBase s8.fst s8.snd.snd (Int.tdiv i1 2 + 1).toNat 2) (s8.snd.fst - (Int.tdiv i1 2 + 1).toNat) (s8.snd.snd - (Int.tdiv i1 2 + 1).toNat)) <|
  .call fn_nw_leaf [.c (.addr a1)] false [.c (.bool)] fun r10 =>
  .bind none (.ite (!r10.fst)
    (.nonnil (r7.fst) fun p11 =>
      .load (p11.fst, p11.snd + 3) (.ptr) fun q12 =>
      .load (a1.fst, a1.snd + 3) (.ptr) fun q13 =>
      .nonnil (q13) fun p14 =>
      .load p14 (.sl) fun s15 =>
      .guard (InK IntKind.i64 (Int.tdiv i1 2 + 1)) <|
      .guard (((0 : Int) ≤ Int.tdiv i1 2 + 1) ∧ ((Int.tdiv i1 2 + 1 : Int) ≤ (↑s15.snd.fst : Int))) <|
      .nonnil (q12) fun p16 =>
      .store p16 (.sl (slBase s15.fst s15.snd.snd (Int.tdiv i1 2 + 1).toNat 1) (s15.snd.fst - (Int.tdiv i1 2 + 1).toNat) (s15.snd.snd - (Int.tdiv i1 2 + 1).toNat)) <|
      .done .normal [])
    (.done .normal [])) [] fun x17 =>
  .call fn_nw_updateCount [.c (.ptr (r7.fst))] true [] fun r18 =>
  .load (a1.fst, a1.snd + 2) (.sl) fun s19 =>
  .load (a0.fst, a0.snd + 4) (.int .i64) fun i20 =>
  .load (a0.fst, a0.snd + 5) (.str) fun i21 =>
  .nonnil (s19.fst) fun p22 =>
  .guard (((0 : Int) ≤ Int.tdiv i1 2) ∧ ((Int.tdiv i1 2 : Int) < (↑s19.snd.fst : Int))) <|
  .store (p22.fst, p22.snd + mulN (Int.tdiv i1 2).toNat 2) (.int .i64 (i20)) <|
  .store (p22.fst, p22.snd + mulN (Int.tdiv i1 2).toNat 2 + 1) (.str (i21)) <|
  .load (a1.fst, a1.snd + 2) (.sl) fun s23 =>
  .guard ((((0 : Int) ≤ Int.tdiv i1 2) ∧ ((Int.tdiv i1 2 : Int) ≤ (↑s23.snd.snd : Int))) ∧ (((0 : Int) ≤ Int.tdiv i1 2) ∧ ((Int.tdiv i1 2 : Int) ≤ (↑(Int.tdiv i1 2).toNat : Int)))) <|
  .store (a1.fst, a1.snd + 2) (.sl (slBase s23.fst (Int.tdiv i1 2).toNat 0 2) ((Int.tdiv i1 2).toNat - 0) ((Int.tdiv i1 2).toNat - 0)) <|
  .call fn_nw_leaf [.c (.addr a1)] false [.c (.bool)] fun r24 =>
  .bind none (.ite (!r24.fst)
    (.load (a1.fst, a1.snd + 3) (.ptr) fun q25 =>
      .load (a1.fst, a1.snd + 3) (.ptr) fun q26 =>
      .nonnil (q26) fun p27 =>
      .load p27 (.sl) fun s28 =>
      .guard (InK IntKind.i64 (Int.tdiv i1 2 + 1)) <|
      .guard (InK IntKind.i64 (Int.tdiv i1 2 + 1)) <|
      .guard ((((0 : Int) ≤ Int.tdiv i1 2 + 1) ∧ ((Int.tdiv i1 2 + 1 : Int) ≤ (↑s28.snd.snd : Int))) ∧ (((0 : Int) ≤ Int.tdiv i1 2 + 1) ∧ ((Int.tdiv i1 2 + 1 : Int) ≤ (↑(Int.tdiv i1 2 + 1).toNat : Int)))) <|
      .nonnil (q25) fun p29 =>
      .store p29 (.sl (slBase s28.fst (Int.tdiv i1 2 + 1).toNat 0 1) ((Int.tdiv i1 2 + 1).toNat - 0) ((Int.tdiv i1 2 + 1).toNat - 0)) <|
      .done .normal [])
    (.done .normal [])) [] fun x30 =>
  .call fn_nw_updateCount [.c (.addr a1)] true [] fun r31 =>
  .load (n0, 0) (.int .i64) fun i32 =>
  .load (n0, 1) (.str) fun i33 =>
  .store (n0, 0) (.int .i64 (i32)) <|
  .store (n0, 1) (.str (i33)) <|
  .load (n0, 0) (.int .i64) fun i34 =>
  .load (n0, 1) (.str) fun i35 =>
  .done .ret [.c (.ptr (r7.fst)), .agg [.int .i64 (i34), .str (i35)]]
theorem den_mw_nodeSplit (a0 : PA) (a1 : PA) : denFn Try.prog Try.f135 [.c (.addr a0), .c (.addr a1)] = M_mw_nodeSplit a0 a1 := by kernel_rfl
theorem hc_mw_nodeSplit (a0 : PA) (a1 : PA) {h : H} {R : Value → H → Prop} (hw : wp Try.prog (M_mw_nodeSplit a0 a1) (Ret R) h) : HC Try.prog fn_mw_nodeSplit (List.map AV.val [.c (.addr a0), .c (.addr a1)]).toArray h R :=
  den_calls hmix Try.func135 (of_decide_eq_true rfl) (by rw [den_mw_nodeSplit]; exact hw)
def M_mw_search (a0 : PA) (a1 : PA) (a2 : ByteArray) : M :=
  .load (a1.fst, a1.snd + 2) (.sl) fun s0 =>
  .bind (some 0) (.loop [.c (.int .i64), .c (.int .i64)] [.c (.int .i64 ((↑s0.snd.fst : Int))), .c (.int .i64 (0))] fun y1 =>
      .ite (decide (y1.snd.fst < y1.fst))
      (.guard (InK IntKind.i64 (y1.snd.fst + y1.fst)) <|
        .guard (((2 : Int) ≠ 0) ∧ (InK IntKind.i64 ((y1.snd.fst + y1.fst).tdiv 2))) <|
        .load (a1.fst, a1.snd + 2) (.sl) fun s2 =>
        .nonnil (s2.fst) fun p3 =>
        .guard (((0 : Int) ≤ (y1.snd.fst + y1.fst).tdiv 2) ∧ (((y1.snd.fst + y1.fst).tdiv 2 : Int) < (↑s2.snd.fst : Int))) <|
        .load (p3.fst, p3.snd + mulN ((y1.snd.fst + y1.fst).tdiv 2).toNat 2 + 1) (.str) fun i4 =>
        .bind none (.ite (!Op.bytesLess a2.toList (ByteArray.toList i4))
          (.guard (InK IntKind.i64 ((y1.snd.fst + y1.fst).tdiv 2 + 1)) <|
            .done .normal [.c (.int .i64 (y1.fst)), .c (.int .i64 ((y1.snd.fst + y1.fst).tdiv 2 + 1))])
          (.done .normal [.c (.int .i64 ((y1.snd.fst + y1.fst).tdiv 2)), .c (.int .i64 (y1.snd.fst))])) [.c (.int .i64), .c (.int .i64)] fun x5 =>
        .done .normal [.c (.int .i64 (x5.fst)), .c (.int .i64 (x5.snd.fst))])
      (.done (.exit 0) [.c (.int .i64 (y1.snd.fst))])) [.c (.int .i64)] fun x6 =>
  .bind none (.ite (decide (x6.fst > 0))
    (.load (a1.fst, a1.snd + 2) (.sl) fun s7 =>
      .guard (InK IntKind.i64 (x6.fst - 1)) <|
      .nonnil (s7.fst) fun p8 =>
      .guard (((0 : Int) ≤ x6.fst - 1) ∧ ((x6.fst - 1 : Int) < (↑s7.snd.fst : Int))) <|
      .load (p8.fst, p8.snd + mulN (x6.fst - 1).toNat 2 + 1) (.str) fun i9 =>
      .done .normal [.c (.bool (!Op.bytesLess (ByteArray.toList i9) a2.toList))])
    (.done .normal [.c (.ff)])) [.c (.bool)] fun x10 =>
  .ite (x10.fst)
  (.guard (InK IntKind.i64 (x6.fst - 1)) <|
    .done .ret [.c (.int .i64 (x6.fst - 1)), .c (.tt)])
  (.done .ret [.c (.int .i64 (x6.fst)), .c (.ff)])
theorem den_mw_search (a0 : PA) (a1 : PA) (a2 : ByteArray) : denFn Try.prog Try.f151 [.c (.addr a0), .c (.addr a1), .c (.str a2)] = M_mw_search a0 a1 a2 := by kernel_rfl
theorem hc_mw_search (a0 : PA) (a1 : PA) (a2 : ByteArray) {h : H} {R : Value → H → Prop} (hw : wp Try.prog (M_mw_search a0 a1 a2) (Ret R) h) : HC Try.prog fn_mw_search (List.map AV.val [.c (.addr a0), .c (.addr a1), .c (.str a2)]).toArray h R :=
  den_calls hmix Try.func151 (of_decide_eq_true rfl) (by rw [den_mw_search]; exact hw)
def M_nw_leaf (a0 : PA) : M :=
  .load (a0.fst, a0.snd + 3) (.ptr) fun q0 =>
  .done .ret [.c (.bool (Option.isNone q0))]
theorem den_nw_leaf (a0 : PA) : denFn Try.prog Try.f142 [.c (.addr a0)] = M_nw_leaf a0 := by kernel_rfl
theorem hc_nw_leaf (a0 : PA) {h : H} {R : Value → H → Prop} (hw : wp Try.prog (M_nw_leaf a0) (Ret R) h) : HC Try.prog fn_nw_leaf (List.map AV.val [.c (.addr a0)]).toArray h R :=
  den_calls hmix Try.func142 (of_decide_eq_true rfl) (by rw [den_nw_leaf]; exact hw)
def M_nw_updateCount (a0 : PA) : M :=
  .load (a0.fst, a0.snd + 2) (.sl) fun s0 =>
  .store (a0.fst, a0.snd + 1) (.int .i64 ((↑s0.snd.fst : Int))) <|
  .call fn_nw_leaf [.c (.addr a0)] false [.c (.bool)] fun r1 =>
  .bind none (.ite (!r1.fst)
    (.bind (some 0) (.loop [.c (.int .i64)] [.c (.int .i64 (0))] fun y2 =>
          .load (a0.fst, a0.snd + 3) (.ptr) fun q3 =>
          .nonnil (q3) fun p4 =>
          .load p4 (.sl) fun s5 =>
          .ite (decide (y2.fst < (↑s5.snd.fst : Int)))
          (.load (a0.fst, a0.snd + 1) (.int .i64) fun i6 =>
            .load (a0.fst, a0.snd + 3) (.ptr) fun q7 =>
            .nonnil (q7) fun p8 =>
            .load p8 (.sl) fun s9 =>
            .nonnil (s9.fst) fun p10 =>
            .guard (((0 : Int) ≤ y2.fst) ∧ ((y2.fst : Int) < (↑s9.snd.fst : Int))) <|
            .load (p10.fst, p10.snd + Int.toNat y2.fst) (.ptr) fun q11 =>
            .nonnil (q11) fun p12 =>
            .load (p12.fst, p12.snd + 1) (.int .i64) fun i13 =>
            .guard (InK IntKind.i64 (i6 + i13)) <|
            .store (a0.fst, a0.snd + 1) (.int .i64 (i6 + i13)) <|
            .guard (InK IntKind.i64 (y2.fst + 1)) <|
            .done .normal [.c (.int .i64 (y2.fst + 1))])
          (.done (.exit 0) [])) [] fun x14 =>
      .done .normal [])
    (.done .normal [])) [] fun x15 =>
  .done .ret []
theorem den_nw_updateCount (a0 : PA) : denFn Try.prog Try.f136 [.c (.addr a0)] = M_nw_updateCount a0 := by kernel_rfl
theorem hc_nw_updateCount (a0 : PA) {h : H} {R : Value → H → Prop} (hw : wp Try.prog (M_nw_updateCount a0) (Ret R) h) : HC Try.prog fn_nw_updateCount (List.map AV.val [.c (.addr a0)]).toArray h R :=
  den_calls hmix Try.func136 (of_decide_eq_true rfl) (by rw [den_nw_updateCount]; exact hw)
end Go.Proofs.Ytgniflegbdeokaa
