/-
  Functions of the translation as typed programs, and that each is its function's reading. Written by a program of ours (gen2.py). Conditions: none.
-/
import Derived.Test.YtpbmahnieepmiaaNm
namespace Go.Proofs.Ytpbmahnieepmiaa
open Go
set_option maxRecDepth 100000
set_option linter.unusedVariables false
def M_degreeToMinMax (a0 : Int) : M :=
  .bind none (.ite (decide (a0 ≤ 0))
    (.done .normal [.c (.int .i64 (32))])
    (.bind none (.ite (a0 == 1)
        (.done .normal [.c (.int .i64 (2))])
        (.done .normal [.c (.int .i64 (a0))])) [.c (.int .i64)] fun x0 =>
      .done .normal [.c (.int .i64 (x0.fst))])) [.c (.int .i64)] fun x1 =>
  .guard (InK IntKind.i64 (x1.fst * 2)) <|
  .guard (InK IntKind.i64 (x1.fst * 2 - 1)) <|
  .guard (((2 : Int) ≠ 0) ∧ (InK IntKind.i64 ((x1.fst * 2 - 1).tdiv 2))) <|
  .done .ret [.c (.int .i64 ((x1.fst * 2 - 1).tdiv 2)), .c (.int .i64 (x1.fst * 2 - 1))]
theorem den_degreeToMinMax (a0 : Int) : denFn Try.prog Try.f105 [.c (.int .i64 a0)] = M_degreeToMinMax a0 := by kernel_rfl
theorem hc_degreeToMinMax (a0 : Int) {h : H} {R : Value → H → Prop} (hw : wp Try.prog (M_degreeToMinMax a0) (Ret R) h) : HC Try.prog fn_degreeToMinMax (List.map AV.val [.c (.int .i64 a0)]).toArray h R :=
  den_calls hmix Try.func105 (of_decide_eq_true rfl) (by rw [den_degreeToMinMax]; exact hw)
def M_ms_Set (a0 : PA) (a1 : Int) : M :=
  .alloc ty_struct [] fun n0 =>
  .alloc ty_struct [] fun n1 =>
  .alloc ty_btree_mapPair_int_struct [.int .i64 (0)] fun n2 =>
  .store (n2, 0) (.int .i64 (a1)) <|
  .load (a0.fst, a0.snd + 2) (.ptr) fun q3 =>
  .ite (Option.isNone q3)
  (.call fn_ms_init [.c (.addr a0), .c (.int .i64 (0))] true [] fun r4 =>
    .call fn_ms_newNode [.c (.addr a0), .c (.tt)] false [.c (.ptr)] fun r5 =>
    .store (a0.fst, a0.snd + 2) (.ptr (r5.fst)) <|
    .bind none (.load (a0.fst, a0.snd + 2) (.ptr) fun q6 =>
      .load (n2, 0) (.int .i64) fun i7 =>
      .both
      (.alloc ty_btree_mapPair_int_struct [] fun n8 =>
        .held (n2, 0) (.int .i64 (i7)) <|
        .held (a0.fst, a0.snd + 2) (.ptr (q6)) <|
        .alloc ty_btree_mapPair_int_struct [.int .i64 (i7)] fun n9 =>
        .held (a0.fst, a0.snd + 2) (.ptr (q6)) <|
        .append ty_btree_mapPair_int_struct 1 8 [.int .i64 (0)] ((some (n8, 0)), 0, 0) ((some (n9, 0)), 1, 1) fun s10 =>
        .held (a0.fst, a0.snd + 2) (.ptr (q6)) <|
        .nonnil (q6) fun p11 =>
        .store (p11.fst, p11.snd + 2) (.sl (s10.fst) (s10.snd.fst) (s10.snd.snd)) <|
        .done .normal [])
      (.alloc ty_btree_mapPair_int_struct [.int .i64 (i7)] fun n12 =>
        .held (a0.fst, a0.snd + 2) (.ptr (q6)) <|
        .alloc ty_btree_mapPair_int_struct [] fun n13 =>
        .held (a0.fst, a0.snd + 2) (.ptr (q6)) <|
        .append ty_btree_mapPair_int_struct 1 8 [.int .i64 (0)] ((some (n13, 0)), 0, 0) ((some (n12, 0)), 1, 1) fun s14 =>
        .held (a0.fst, a0.snd + 2) (.ptr (q6)) <|
        .nonnil (q6) fun p15 =>
        .store (p15.fst, p15.snd + 2) (.sl (s14.fst) (s14.snd.fst) (s14.snd.snd)) <|
        .done .normal [])) [] fun x16 =>
    .load (a0.fst, a0.snd + 2) (.ptr) fun q17 =>
    .nonnil (q17) fun p18 =>
    .store (p18.fst, p18.snd + 1) (.int .i64 (1)) <|
    .store (a0.fst, a0.snd + 3) (.int .i64 (1)) <|
    .there (a0.fst, a0.snd + 4) <|
    .done .ret [.agg [], .c (.ff)])
  (.bind none (.load (n2, 0) (.int .i64) fun i19 =>
      .both
      (.call fn_ms_nodeSet [.c (.addr a0), .c (.addr (a0.fst, a0.snd + 2)), .agg [.int .i64 (i19)]] true [.agg [], .c (.bool), .c (.bool)] fun r20 =>
        .alloc ty_struct [] fun n21 =>
        .done .normal [.c (.bool (r20.snd.snd.fst)), .c (.bool (r20.snd.fst)), .c (.addr (n21, 0))])
      (.alloc ty_struct [] fun n22 =>
        .held (n2, 0) (.int .i64 (i19)) <|
        .call fn_ms_nodeSet [.c (.addr a0), .c (.addr (a0.fst, a0.snd + 2)), .agg [.int .i64 (i19)]] true [.agg [], .c (.bool), .c (.bool)] fun r23 =>
        .done .normal [.c (.bool (r23.snd.snd.fst)), .c (.bool (r23.snd.fst)), .c (.addr (n22, 0))])) [.c (.bool), .c (.bool), .c (.addr)] fun x24 =>
    .ite (x24.fst)
    (.load (a0.fst, a0.snd + 2) (.ptr) fun q25 =>
      .call fn_ms_nodeSplit [.c (.addr a0), .c (.ptr (q25))] true [.c (.ptr), .agg [.int .i64]] fun r26 =>
      .alloc ty_btree_mapPair_int_struct [.int .i64 (0)] fun n27 =>
      .store (n27, 0) (.int .i64 (r26.snd.fst.fst)) <|
      .call fn_ms_newNode [.c (.addr a0), .c (.ff)] false [.c (.ptr)] fun r28 =>
      .store (a0.fst, a0.snd + 2) (.ptr (r28.fst)) <|
      .load (a0.fst, a0.snd + 2) (.ptr) fun q29 =>
      .nonnil (q29) fun p30 =>
      .load (p30.fst, p30.snd + 3) (.ptr) fun q31 =>
      .load (a0.fst, a0.snd + 6) (.int .i64) fun i32 =>
      .guard (InK IntKind.i64 (i32 + 1)) <|
      .make ty_p_btree_mapNode_int_struct 1 8 [.ptr none] (0) (i32 + 1) fun s33 =>
      .held (p30.fst, p30.snd + 3) (.ptr (q31)) <|
      .held (a0.fst, a0.snd + 2) (.ptr (q29)) <|
      .nonnil (q31) fun p34 =>
      .store p34 (.sl (s33.fst) (s33.snd.fst) (s33.snd.snd)) <|
      .bind none (.load (a0.fst, a0.snd + 2) (.ptr) fun q35 =>
        .nonnil (q35) fun p36 =>
        .load (p36.fst, p36.snd + 3) (.ptr) fun q37 =>
        .both
        (.alloc ty_p_btree_mapNode_int_struct [] fun n38 =>
          .held (p36.fst, p36.snd + 3) (.ptr (q37)) <|
          .held (a0.fst, a0.snd + 2) (.ptr (q35)) <|
          .alloc ty_p_btree_mapNode_int_struct [.ptr (q25), .ptr (r26.fst)] fun n39 =>
          .held (p36.fst, p36.snd + 3) (.ptr (q37)) <|
          .held (a0.fst, a0.snd + 2) (.ptr (q35)) <|
          .append ty_p_btree_mapNode_int_struct 1 8 [.ptr none] ((some (n38, 0)), 0, 0) ((some (n39, 0)), 2, 2) fun s40 =>
          .held (p36.fst, p36.snd + 3) (.ptr (q37)) <|
          .held (a0.fst, a0.snd + 2) (.ptr (q35)) <|
          .nonnil (q37) fun p41 =>
          .store p41 (.sl (s40.fst) (s40.snd.fst) (s40.snd.snd)) <|
          .done .normal [])
        (.alloc ty_p_btree_mapNode_int_struct [.ptr (q25), .ptr (r26.fst)] fun n42 =>
          .held (p36.fst, p36.snd + 3) (.ptr (q37)) <|
          .held (a0.fst, a0.snd + 2) (.ptr (q35)) <|
          .alloc ty_p_btree_mapNode_int_struct [] fun n43 =>
          .held (p36.fst, p36.snd + 3) (.ptr (q37)) <|
          .held (a0.fst, a0.snd + 2) (.ptr (q35)) <|
          .append ty_p_btree_mapNode_int_struct 1 8 [.ptr none] ((some (n43, 0)), 0, 0) ((some (n42, 0)), 2, 2) fun s44 =>
          .held (p36.fst, p36.snd + 3) (.ptr (q37)) <|
          .held (a0.fst, a0.snd + 2) (.ptr (q35)) <|
          .nonnil (q37) fun p45 =>
          .store p45 (.sl (s44.fst) (s44.snd.fst) (s44.snd.snd)) <|
          .done .normal [])) [] fun x46 =>
      .bind none (.load (a0.fst, a0.snd + 2) (.ptr) fun q47 =>
        .load (n27, 0) (.int .i64) fun i48 =>
        .both
        (.alloc ty_btree_mapPair_int_struct [] fun n49 =>
          .held (n27, 0) (.int .i64 (i48)) <|
          .held (a0.fst, a0.snd + 2) (.ptr (q47)) <|
          .alloc ty_btree_mapPair_int_struct [.int .i64 (i48)] fun n50 =>
          .held (a0.fst, a0.snd + 2) (.ptr (q47)) <|
          .append ty_btree_mapPair_int_struct 1 8 [.int .i64 (0)] ((some (n49, 0)), 0, 0) ((some (n50, 0)), 1, 1) fun s51 =>
          .held (a0.fst, a0.snd + 2) (.ptr (q47)) <|
          .nonnil (q47) fun p52 =>
          .store (p52.fst, p52.snd + 2) (.sl (s51.fst) (s51.snd.fst) (s51.snd.snd)) <|
          .done .normal [])
        (.alloc ty_btree_mapPair_int_struct [.int .i64 (i48)] fun n53 =>
          .held (a0.fst, a0.snd + 2) (.ptr (q47)) <|
          .alloc ty_btree_mapPair_int_struct [] fun n54 =>
          .held (a0.fst, a0.snd + 2) (.ptr (q47)) <|
          .append ty_btree_mapPair_int_struct 1 8 [.int .i64 (0)] ((some (n54, 0)), 0, 0) ((some (n53, 0)), 1, 1) fun s55 =>
          .held (a0.fst, a0.snd + 2) (.ptr (q47)) <|
          .nonnil (q47) fun p56 =>
          .store (p56.fst, p56.snd + 2) (.sl (s55.fst) (s55.snd.fst) (s55.snd.snd)) <|
          .done .normal [])) [] fun x57 =>
      .load (a0.fst, a0.snd + 2) (.ptr) fun q58 =>
      .call fn_ns_updateCount [.c (.ptr (q58))] true [] fun r59 =>
      .load (n2, 0) (.int .i64) fun i60 =>
      .there (n2, 0) <|
      .call fn_ms_Set [.c (.addr a0), .c (.int .i64 (i60)), .agg []] true [.agg [], .c (.bool)] fun r61 =>
      .done .ret [.agg [], .c (.bool (r61.snd.fst))])
    (.ite (x24.snd.fst)
      (.done .ret [.agg [], .c (.tt)])
      (.load (a0.fst, a0.snd + 3) (.int .i64) fun i62 =>
        .guard (InK IntKind.i64 (i62 + 1)) <|
        .store (a0.fst, a0.snd + 3) (.int .i64 (i62 + 1)) <|
        .there (a0.fst, a0.snd + 4) <|
        .done .ret [.agg [], .c (.ff)])))
theorem den_ms_Set (a0 : PA) (a1 : Int) : denFn Try.prog Try.f76 [.c (.addr a0), .c (.int .i64 a1), .agg []] = M_ms_Set a0 a1 := by kernel_rfl
theorem hc_ms_Set (a0 : PA) (a1 : Int) {h : H} {R : Value → H → Prop} (hw : wp Try.prog (M_ms_Set a0 a1) (Ret R) h) : HC Try.prog fn_ms_Set (List.map AV.val [.c (.addr a0), .c (.int .i64 a1), .agg []]).toArray h R :=
  den_calls hmix Try.func76 (of_decide_eq_true rfl) (by rw [den_ms_Set]; exact hw)
def M_ms_init (a0 : PA) (a1 : Int) : M :=
  .load (a0.fst, a0.snd + 5) (.int .i64) fun i0 =>
  .ite (i0 != 0)
  (.done .ret [])
  (.call fn_degreeToMinMax [.c (.int .i64 (a1))] true [.c (.int .i64), .c (.int .i64)] fun r1 =>
    .store (a0.fst, a0.snd + 5) (.int .i64 (r1.fst)) <|
    .store (a0.fst, a0.snd + 6) (.int .i64 (r1.snd.fst)) <|
    .there (a0.fst, a0.snd + 4) <|
    .guard (noMeths Try.prog (Value.iface ty_struct (AV.agg []).val)) <|
    .store (a0.fst, a0.snd + 7) (.ff) <|
    .load (a0.fst, a0.snd + 7) (.bool) fun b2 =>
    .bind none (.ite (!b2)
      (.there (a0.fst, a0.snd + 4) <|
        .guard (noMeths Try.prog (Value.iface ty_struct (AV.agg []).val)) <|
        .store (a0.fst, a0.snd + 8) (.ff) <|
        .done .normal [])
      (.done .normal [])) [] fun x3 =>
    .done .ret [])
theorem den_ms_init (a0 : PA) (a1 : Int) : denFn Try.prog Try.f93 [.c (.addr a0), .c (.int .i64 a1)] = M_ms_init a0 a1 := by kernel_rfl
theorem hc_ms_init (a0 : PA) (a1 : Int) {h : H} {R : Value → H → Prop} (hw : wp Try.prog (M_ms_init a0 a1) (Ret R) h) : HC Try.prog fn_ms_init (List.map AV.val [.c (.addr a0), .c (.int .i64 a1)]).toArray h R :=
  den_calls hmix Try.func93 (of_decide_eq_true rfl) (by rw [den_ms_init]; exact hw)
def M_ms_isoLoad (a0 : PA) (a1 : PA) (a2 : Bool) : M :=
  .bind none (.ite (a2)
    (.load a1 (.ptr) fun q0 =>
      .nonnil (q0) fun p1 =>
      .load (p1.fst, p1.snd) (.int .u64) fun i2 =>
      .load (a0.fst, a0.snd) (.int .u64) fun i3 =>
      .done .normal [.c (.bool (i2 != i3))])
    (.done .normal [.c (.ff)])) [.c (.bool)] fun x4 =>
  .bind none (.ite (x4.fst)
    (.load a1 (.ptr) fun q5 =>
      .call fn_ms_copy [.c (.addr a0), .c (.ptr (q5))] false [.c (.ptr)] fun r6 =>
      .store a1 (.ptr (r6.fst)) <|
      .done .normal [])
    (.done .normal [])) [] fun x7 =>
  .load a1 (.ptr) fun q8 =>
  .done .ret [.c (.ptr (q8))]
theorem den_ms_isoLoad (a0 : PA) (a1 : PA) (a2 : Bool) : denFn Try.prog Try.f99 [.c (.addr a0), .c (.addr a1), .c (.bool a2)] = M_ms_isoLoad a0 a1 a2 := by kernel_rfl
theorem hc_ms_isoLoad (a0 : PA) (a1 : PA) (a2 : Bool) {h : H} {R : Value → H → Prop} (hw : wp Try.prog (M_ms_isoLoad a0 a1 a2) (Ret R) h) : HC Try.prog fn_ms_isoLoad (List.map AV.val [.c (.addr a0), .c (.addr a1), .c (.bool a2)]).toArray h R :=
  den_calls hmix Try.func99 (of_decide_eq_true rfl) (by rw [den_ms_isoLoad]; exact hw)
def M_ms_newNode (a0 : PA) (a1 : Bool) : M :=
  .alloc ty_btree_mapNode_int_struct [.int .u64 (0), .int .i64 (0), .sl none (0) (0), .ptr none] fun n0 =>
  .load (a0.fst, a0.snd) (.int .u64) fun i1 =>
  .store (n0, 0) (.int .u64 (i1)) <|
  .bind none (.ite (!a1)
    (.alloc ty_sl_p_btree_mapNode_int_struct [.sl none (0) (0)] fun n2 =>
      .store (n0, 3) (.addr (n2, 0)) <|
      .done .normal [])
    (.done .normal [])) [] fun x3 =>
  .done .ret [.c (.addr (n0, 0))]
theorem den_ms_newNode (a0 : PA) (a1 : Bool) : denFn Try.prog Try.f94 [.c (.addr a0), .c (.bool a1)] = M_ms_newNode a0 a1 := by kernel_rfl
theorem hc_ms_newNode (a0 : PA) (a1 : Bool) {h : H} {R : Value → H → Prop} (hw : wp Try.prog (M_ms_newNode a0 a1) (Ret R) h) : HC Try.prog fn_ms_newNode (List.map AV.val [.c (.addr a0), .c (.bool a1)]).toArray h R :=
  den_calls hmix Try.func94 (of_decide_eq_true rfl) (by rw [den_ms_newNode]; exact hw)
def M_ms_nodeSet (a0 : PA) (a1 : PA) (a20 : Int) : M :=
  .alloc ty_btree_mapPair_int_struct [.int .i64 (a20)] fun n0 =>
  .alloc ty_struct [] fun n1 =>
  .call fn_ms_isoLoad [.c (.addr a0), .c (.addr a1), .c (.tt)] false [.c (.ptr)] fun r2 =>
  .alloc ty_p_btree_mapNode_int_struct [.ptr none] fun n3 =>
  .store (n3, 0) (.ptr (r2.fst)) <|
  .load (n3, 0) (.ptr) fun q4 =>
  .load (n0, 0) (.int .i64) fun i5 =>
  .call fn_ms_search [.c (.addr a0), .c (.ptr (q4)), .c (.int .i64 (i5))] true [.c (.int .i64), .c (.bool)] fun r6 =>
  .ite (r6.snd.fst)
  (.load (n3, 0) (.ptr) fun q7 =>
    .nonnil (q7) fun p8 =>
    .load (p8.fst, p8.snd + 2) (.sl) fun s9 =>
    .nonnil (s9.fst) fun p10 =>
    .guard (((0 : Int) ≤ r6.fst) ∧ ((r6.fst : Int) < (↑s9.snd.fst : Int))) <|
    .there (p10.fst, p10.snd + Int.toNat r6.fst) <|
    .load (n3, 0) (.ptr) fun q11 =>
    .nonnil (q11) fun p12 =>
    .load (p12.fst, p12.snd + 2) (.sl) fun s13 =>
    .load (n0, 0) (.int .i64) fun i14 =>
    .nonnil (s13.fst) fun p15 =>
    .guard (((0 : Int) ≤ r6.fst) ∧ ((r6.fst : Int) < (↑s13.snd.fst : Int))) <|
    .store (p15.fst, p15.snd + Int.toNat r6.fst) (.int .i64 (i14)) <|
    .done .ret [.agg [], .c (.tt), .c (.ff)])
  (.load (n3, 0) (.ptr) fun q16 =>
    .call fn_ns_leaf [.c (.ptr (q16))] false [.c (.bool)] fun r17 =>
    .ite (r17.fst)
    (.load (n3, 0) (.ptr) fun q18 =>
      .nonnil (q18) fun p19 =>
      .load (p19.fst, p19.snd + 2) (.sl) fun s20 =>
      .load (a0.fst, a0.snd + 6) (.int .i64) fun i21 =>
      .ite ((↑s20.snd.fst : Int) == i21)
      (.there (a0.fst, a0.snd + 4) <|
        .done .ret [.agg [], .c (.ff), .c (.tt)])
      (.load (n3, 0) (.ptr) fun q22 =>
        .load (n3, 0) (.ptr) fun q23 =>
        .nonnil (q23) fun p24 =>
        .load (p24.fst, p24.snd + 2) (.sl) fun s25 =>
        .load (a0.fst, a0.snd + 4) (.int .i64) fun i26 =>
        .alloc ty_btree_mapPair_int_struct [.int .i64 (i26)] fun n27 =>
        .held (p24.fst, p24.snd + 2) (.sl (s25.fst) (s25.snd.fst) (s25.snd.snd)) <|
        .held (n3, 0) (.ptr (q23)) <|
        .held (n3, 0) (.ptr (q22)) <|
        .append ty_btree_mapPair_int_struct 1 8 [.int .i64 (0)] ((s25.fst), s25.snd.fst, s25.snd.snd) ((some (n27, 0)), 1, 1) fun s28 =>
        .held (n3, 0) (.ptr (q22)) <|
        .nonnil (q22) fun p29 =>
        .store (p29.fst, p29.snd + 2) (.sl (s28.fst) (s28.snd.fst) (s28.snd.snd)) <|
        .load (n3, 0) (.ptr) fun q30 =>
        .nonnil (q30) fun p31 =>
        .load (p31.fst, p31.snd + 2) (.sl) fun s32 =>
        .guard (InK IntKind.i64 (r6.fst + 1)) <|
        .guard (((0 : Int) ≤ r6.fst + 1) ∧ ((r6.fst + 1 : Int) ≤ (↑s32.snd.fst : Int))) <|
        .load (n3, 0) (.ptr) fun q33 =>
        .nonnil (q33) fun p34 =>
        .load (p34.fst, p34.snd + 2) (.sl) fun s35 =>
        .guard (((0 : Int) ≤ r6.fst) ∧ ((r6.fst : Int) ≤ (↑s35.snd.fst : Int))) <|
        .copy 1 ((slBase s32.fst s32.snd.snd (r6.fst + 1).toNat 1), s32.snd.fst - (r6.fst + 1).toNat, s32.snd.snd - (r6.fst + 1).toNat) ((slBase s35.fst s35.snd.snd (Int.toNat r6.fst) 1), s35.snd.fst - Int.toNat r6.fst, s35.snd.snd - Int.toNat r6.fst) fun m36 =>
        .load (n3, 0) (.ptr) fun q37 =>
        .nonnil (q37) fun p38 =>
        .load (p38.fst, p38.snd + 2) (.sl) fun s39 =>
        .load (n0, 0) (.int .i64) fun i40 =>
        .nonnil (s39.fst) fun p41 =>
        .guard (((0 : Int) ≤ r6.fst) ∧ ((r6.fst : Int) < (↑s39.snd.fst : Int))) <|
        .store (p41.fst, p41.snd + Int.toNat r6.fst) (.int .i64 (i40)) <|
        .load (n3, 0) (.ptr) fun q42 =>
        .nonnil (q42) fun p43 =>
        .load (p43.fst, p43.snd + 1) (.int .i64) fun i44 =>
        .guard (InK IntKind.i64 (i44 + 1)) <|
        .nonnil (q42) fun p45 =>
        .store (p45.fst, p45.snd + 1) (.int .i64 (i44 + 1)) <|
        .there (a0.fst, a0.snd + 4) <|
        .done .ret [.agg [], .c (.ff), .c (.ff)]))
    (.load (n3, 0) (.ptr) fun q46 =>
      .nonnil (q46) fun p47 =>
      .load (p47.fst, p47.snd + 3) (.ptr) fun q48 =>
      .nonnil (q48) fun p49 =>
      .load p49 (.sl) fun s50 =>
      .nonnil (s50.fst) fun p51 =>
      .guard (((0 : Int) ≤ r6.fst) ∧ ((r6.fst : Int) < (↑s50.snd.fst : Int))) <|
      .load (n0, 0) (.int .i64) fun i52 =>
      .call fn_ms_nodeSet [.c (.addr a0), .c (.addr (p51.fst, p51.snd + Int.toNat r6.fst)), .agg [.int .i64 (i52)]] true [.agg [], .c (.bool), .c (.bool)] fun r53 =>
      .ite (r53.snd.snd.fst)
      (.load (n3, 0) (.ptr) fun q54 =>
        .nonnil (q54) fun p55 =>
        .load (p55.fst, p55.snd + 2) (.sl) fun s56 =>
        .load (a0.fst, a0.snd + 6) (.int .i64) fun i57 =>
        .ite ((↑s56.snd.fst : Int) == i57)
        (.there (a0.fst, a0.snd + 4) <|
          .done .ret [.agg [], .c (.ff), .c (.tt)])
        (.load (n3, 0) (.ptr) fun q58 =>
          .nonnil (q58) fun p59 =>
          .load (p59.fst, p59.snd + 3) (.ptr) fun q60 =>
          .nonnil (q60) fun p61 =>
          .load p61 (.sl) fun s62 =>
          .nonnil (s62.fst) fun p63 =>
          .guard (((0 : Int) ≤ r6.fst) ∧ ((r6.fst : Int) < (↑s62.snd.fst : Int))) <|
          .load (p63.fst, p63.snd + Int.toNat r6.fst) (.ptr) fun q64 =>
          .call fn_ms_nodeSplit [.c (.addr a0), .c (.ptr (q64))] true [.c (.ptr), .agg [.int .i64]] fun r65 =>
          .alloc ty_btree_mapPair_int_struct [.int .i64 (0)] fun n66 =>
          .store (n66, 0) (.int .i64 (r65.snd.fst.fst)) <|
          .load (n3, 0) (.ptr) fun q67 =>
          .nonnil (q67) fun p68 =>
          .load (p68.fst, p68.snd + 3) (.ptr) fun q69 =>
          .load (n3, 0) (.ptr) fun q70 =>
          .nonnil (q70) fun p71 =>
          .load (p71.fst, p71.snd + 3) (.ptr) fun q72 =>
          .nonnil (q72) fun p73 =>
          .load p73 (.sl) fun s74 =>
          .alloc ty_p_btree_mapNode_int_struct [.ptr none] fun n75 =>
          .held p73 (.sl (s74.fst) (s74.snd.fst) (s74.snd.snd)) <|
          .held (p71.fst, p71.snd + 3) (.ptr (q72)) <|
          .held (n3, 0) (.ptr (q70)) <|
          .held (p68.fst, p68.snd + 3) (.ptr (q69)) <|
          .held (n3, 0) (.ptr (q67)) <|
          .append ty_p_btree_mapNode_int_struct 1 8 [.ptr none] ((s74.fst), s74.snd.fst, s74.snd.snd) ((some (n75, 0)), 1, 1) fun s76 =>
          .held (p68.fst, p68.snd + 3) (.ptr (q69)) <|
          .held (n3, 0) (.ptr (q67)) <|
          .nonnil (q69) fun p77 =>
          .store p77 (.sl (s76.fst) (s76.snd.fst) (s76.snd.snd)) <|
          .load (n3, 0) (.ptr) fun q78 =>
          .nonnil (q78) fun p79 =>
          .load (p79.fst, p79.snd + 3) (.ptr) fun q80 =>
          .nonnil (q80) fun p81 =>
          .load p81 (.sl) fun s82 =>
          .guard (InK IntKind.i64 (r6.fst + 1)) <|
          .guard (((0 : Int) ≤ r6.fst + 1) ∧ ((r6.fst + 1 : Int) ≤ (↑s82.snd.fst : Int))) <|
          .load (n3, 0) (.ptr) fun q83 =>
          .nonnil (q83) fun p84 =>
          .load (p84.fst, p84.snd + 3) (.ptr) fun q85 =>
          .nonnil (q85) fun p86 =>
          .load p86 (.sl) fun s87 =>
          .guard (((0 : Int) ≤ r6.fst) ∧ ((r6.fst : Int) ≤ (↑s87.snd.fst : Int))) <|
          .copy 1 ((slBase s82.fst s82.snd.snd (r6.fst + 1).toNat 1), s82.snd.fst - (r6.fst + 1).toNat, s82.snd.snd - (r6.fst + 1).toNat) ((slBase s87.fst s87.snd.snd (Int.toNat r6.fst) 1), s87.snd.fst - Int.toNat r6.fst, s87.snd.snd - Int.toNat r6.fst) fun m88 =>
          .load (n3, 0) (.ptr) fun q89 =>
          .nonnil (q89) fun p90 =>
          .load (p90.fst, p90.snd + 3) (.ptr) fun q91 =>
          .nonnil (q91) fun p92 =>
          .load p92 (.sl) fun s93 =>
          .guard (InK IntKind.i64 (r6.fst + 1)) <|
          .nonnil (s93.fst) fun p94 =>
          .guard (((0 : Int) ≤ r6.fst + 1) ∧ ((r6.fst + 1 : Int) < (↑s93.snd.fst : Int))) <|
          .store (p94.fst, p94.snd + (r6.fst + 1).toNat) (.ptr (r65.fst)) <|
          .load (n3, 0) (.ptr) fun q95 =>
          .load (n3, 0) (.ptr) fun q96 =>
          .nonnil (q96) fun p97 =>
          .load (p97.fst, p97.snd + 2) (.sl) fun s98 =>
          .load (a0.fst, a0.snd + 4) (.int .i64) fun i99 =>
          .alloc ty_btree_mapPair_int_struct [.int .i64 (i99)] fun n100 =>
          .held (p97.fst, p97.snd + 2) (.sl (s98.fst) (s98.snd.fst) (s98.snd.snd)) <|
          .held (n3, 0) (.ptr (q96)) <|
          .held (n3, 0) (.ptr (q95)) <|
          .append ty_btree_mapPair_int_struct 1 8 [.int .i64 (0)] ((s98.fst), s98.snd.fst, s98.snd.snd) ((some (n100, 0)), 1, 1) fun s101 =>
          .held (n3, 0) (.ptr (q95)) <|
          .nonnil (q95) fun p102 =>
          .store (p102.fst, p102.snd + 2) (.sl (s101.fst) (s101.snd.fst) (s101.snd.snd)) <|
          .load (n3, 0) (.ptr) fun q103 =>
          .nonnil (q103) fun p104 =>
          .load (p104.fst, p104.snd + 2) (.sl) fun s105 =>
          .guard (InK IntKind.i64 (r6.fst + 1)) <|
          .guard (((0 : Int) ≤ r6.fst + 1) ∧ ((r6.fst + 1 : Int) ≤ (↑s105.snd.fst : Int))) <|
          .load (n3, 0) (.ptr) fun q106 =>
          .nonnil (q106) fun p107 =>
          .load (p107.fst, p107.snd + 2) (.sl) fun s108 =>
          .guard (((0 : Int) ≤ r6.fst) ∧ ((r6.fst : Int) ≤ (↑s108.snd.fst : Int))) <|
          .copy 1 ((slBase s105.fst s105.snd.snd (r6.fst + 1).toNat 1), s105.snd.fst - (r6.fst + 1).toNat, s105.snd.snd - (r6.fst + 1).toNat) ((slBase s108.fst s108.snd.snd (Int.toNat r6.fst) 1), s108.snd.fst - Int.toNat r6.fst, s108.snd.snd - Int.toNat r6.fst) fun m109 =>
          .load (n3, 0) (.ptr) fun q110 =>
          .nonnil (q110) fun p111 =>
          .load (p111.fst, p111.snd + 2) (.sl) fun s112 =>
          .load (n66, 0) (.int .i64) fun i113 =>
          .nonnil (s112.fst) fun p114 =>
          .guard (((0 : Int) ≤ r6.fst) ∧ ((r6.fst : Int) < (↑s112.snd.fst : Int))) <|
          .store (p114.fst, p114.snd + Int.toNat r6.fst) (.int .i64 (i113)) <|
          .load (n0, 0) (.int .i64) fun i115 =>
          .call fn_ms_nodeSet [.c (.addr a0), .c (.addr (n3, 0)), .agg [.int .i64 (i115)]] true [.agg [], .c (.bool), .c (.bool)] fun r116 =>
          .done .ret [.agg [], .c (.bool (r116.snd.fst)), .c (.bool (r116.snd.snd.fst))]))
      (.bind none (.ite (!r53.snd.fst)
          (.load (n3, 0) (.ptr) fun q117 =>
            .nonnil (q117) fun p118 =>
            .load (p118.fst, p118.snd + 1) (.int .i64) fun i119 =>
            .guard (InK IntKind.i64 (i119 + 1)) <|
            .nonnil (q117) fun p120 =>
            .store (p120.fst, p120.snd + 1) (.int .i64 (i119 + 1)) <|
            .done .normal [])
          (.done .normal [])) [] fun x121 =>
        .done .ret [.agg [], .c (.bool (r53.snd.fst)), .c (.ff)])))
theorem den_ms_nodeSet (a0 : PA) (a1 : PA) (a20 : Int) : denFn Try.prog Try.f95 [.c (.addr a0), .c (.addr a1), .agg [.int .i64 a20]] = M_ms_nodeSet a0 a1 a20 := by kernel_rfl
theorem hc_ms_nodeSet (a0 : PA) (a1 : PA) (a20 : Int) {h : H} {R : Value → H → Prop} (hw : wp Try.prog (M_ms_nodeSet a0 a1 a20) (Ret R) h) : HC Try.prog fn_ms_nodeSet (List.map AV.val [.c (.addr a0), .c (.addr a1), .agg [.int .i64 a20]]).toArray h R :=
  den_calls hmix Try.func95 (of_decide_eq_true rfl) (by rw [den_ms_nodeSet]; exact hw)
def M_ms_nodeSplit (a0 : PA) (a1 : PA) : M :=
  .alloc ty_btree_mapPair_int_struct [.int .i64 (0)] fun n0 =>
  .load (a0.fst, a0.snd + 6) (.int .i64) fun i1 =>
  .guard (((2 : Int) ≠ 0) ∧ (InK IntKind.i64 (Int.tdiv i1 2))) <|
  .load (a1.fst, a1.snd + 2) (.sl) fun s2 =>
  .nonnil (s2.fst) fun p3 =>
  .guard (((0 : Int) ≤ Int.tdiv i1 2) ∧ ((Int.tdiv i1 2 : Int) < (↑s2.snd.fst : Int))) <|
  .load (p3.fst, p3.snd + (Int.tdiv i1 2).toNat) (.int .i64) fun i4 =>
  .store (n0, 0) (.int .i64 (i4)) <|
  .call fn_ns_leaf [.c (.addr a1)] false [.c (.bool)] fun r5 =>
  .call fn_ms_newNode [.c (.addr a0), .c (.bool (r5.fst))] false [.c (.ptr)] fun r6 =>
  .load (a1.fst, a1.snd + 2) (.sl) fun s7 =>
  .guard (InK IntKind.i64 (Int.tdiv i1 2 + 1)) <|
  .guard (((0 : Int) ≤ Int.tdiv i1 2 + 1) ∧ ((Int.tdiv i1 2 + 1 : Int) ≤ (↑s7.snd.fst : Int))) <|
  .nonnil (r6.fst) fun p8 =>
  .store (p8.fst, p8.snd + 2) (.sl (slBase s7.fst s7.snd.snd (Int.tdiv i1 2 + 1).toNat 1) (s7.snd.fst - (Int.tdiv i1 2 + 1).toNat) (s7.snd.snd - (Int.tdiv i1 2 + 1).toNat)) <|
  .call fn_ns_leaf [.c (.addr a1)] false [.c (.bool)] fun r9 =>
  .bind none (.ite (!r9.fst)
    (.nonnil (r6.fst) fun p10 =>
      .load (p10.fst, p10.snd + 3) (.ptr) fun q11 =>
      .load (a1.fst, a1.snd + 3) (.ptr) fun q12 =>
      .nonnil (q12) fun p13 =>
      .load p13 (.sl) fun s14 =>
      .guard (InK IntKind.i64 (Int.tdiv i1 2 + 1)) <|
      .guard (((0 : Int) ≤ Int.tdiv i1 2 + 1) ∧ ((Int.tdiv i1 2 + 1 : Int) ≤ (↑s14.snd.fst : Int))) <|
      .nonnil (q11) fun p15 =>
      .store p15 (.sl (slBase s14.fst s14.snd.snd (Int.tdiv i1 2 + 1).toNat 1) (s14.snd.fst - (Int.tdiv i1 2 + 1).toNat) (s14.snd.snd - (Int.tdiv i1 2 + 1).toNat)) <|
      .done .normal [])
    (.done .normal [])) [] fun x16 =>
  .call fn_ns_updateCount [.c (.ptr (r6.fst))] true [] fun r17 =>
  .load (a1.fst, a1.snd + 2) (.sl) fun s18 =>
  .load (a0.fst, a0.snd + 4) (.int .i64) fun i19 =>
  .nonnil (s18.fst) fun p20 =>
  .guard (((0 : Int) ≤ Int.tdiv i1 2) ∧ ((Int.tdiv i1 2 : Int) < (↑s18.snd.fst : Int))) <|
  .store (p20.fst, p20.snd + (Int.tdiv i1 2).toNat) (.int .i64 (i19)) <|
  .load (a1.fst, a1.snd + 2) (.sl) fun s21 =>
  .guard ((((0 : Int) ≤ Int.tdiv i1 2) ∧ ((Int.tdiv i1 2 : Int) ≤ (↑s21.snd.snd : Int))) ∧ (((0 : Int) ≤ Int.tdiv i1 2) ∧ ((Int.tdiv i1 2 : Int) ≤ (↑(Int.tdiv i1 2).toNat : Int)))) <|
  .store (a1.fst, a1.snd + 2) (.sl (slBase s21.fst (Int.tdiv i1 2).toNat 0 1) ((Int.tdiv i1 2).toNat - 0) ((Int.tdiv i1 2).toNat - 0)) <|
  .call fn_ns_leaf [.c (.addr a1)] false [.c (.bool)] fun r22 =>
  .bind none (.ite (!r22.fst)
    (.load (a1.fst, a1.snd + 3) (.ptr) fun q23 =>
      .load (a1.fst, a1.snd + 3) (.ptr) fun q24 =>
      .nonnil (q24) fun p25 =>
      .load p25 (.sl) fun s26 =>
      .guard (InK IntKind.i64 (Int.tdiv i1 2 + 1)) <|
      .guard (InK IntKind.i64 (Int.tdiv i1 2 + 1)) <|
      .guard ((((0 : Int) ≤ Int.tdiv i1 2 + 1) ∧ ((Int.tdiv i1 2 + 1 : Int) ≤ (↑s26.snd.snd : Int))) ∧ (((0 : Int) ≤ Int.tdiv i1 2 + 1) ∧ ((Int.tdiv i1 2 + 1 : Int) ≤ (↑(Int.tdiv i1 2 + 1).toNat : Int)))) <|
      .nonnil (q23) fun p27 =>
      .store p27 (.sl (slBase s26.fst (Int.tdiv i1 2 + 1).toNat 0 1) ((Int.tdiv i1 2 + 1).toNat - 0) ((Int.tdiv i1 2 + 1).toNat - 0)) <|
      .done .normal [])
    (.done .normal [])) [] fun x28 =>
  .call fn_ns_updateCount [.c (.addr a1)] true [] fun r29 =>
  .load (n0, 0) (.int .i64) fun i30 =>
  .store (n0, 0) (.int .i64 (i30)) <|
  .load (n0, 0) (.int .i64) fun i31 =>
  .done .ret [.c (.ptr (r6.fst)), .agg [.int .i64 (i31)]]
theorem den_ms_nodeSplit (a0 : PA) (a1 : PA) : denFn Try.prog Try.f96 [.c (.addr a0), .c (.addr a1)] = M_ms_nodeSplit a0 a1 := by kernel_rfl
theorem hc_ms_nodeSplit (a0 : PA) (a1 : PA) {h : H} {R : Value → H → Prop} (hw : wp Try.prog (M_ms_nodeSplit a0 a1) (Ret R) h) : HC Try.prog fn_ms_nodeSplit (List.map AV.val [.c (.addr a0), .c (.addr a1)]).toArray h R :=
  den_calls hmix Try.func96 (of_decide_eq_true rfl) (by rw [den_ms_nodeSplit]; exact hw)
def M_ms_search (a0 : PA) (a1 : PA) (a2 : Int) : M :=
  .load (a1.fst, a1.snd + 2) (.sl) fun s0 =>
  .bind (some 0) (.loop [.c (.int .i64), .c (.int .i64)] [.c (.int .i64 ((↑s0.snd.fst : Int))), .c (.int .i64 (0))] fun y1 =>
      .ite (decide (y1.snd.fst < y1.fst))
      (.guard (InK IntKind.i64 (y1.snd.fst + y1.fst)) <|
        .guard (((2 : Int) ≠ 0) ∧ (InK IntKind.i64 ((y1.snd.fst + y1.fst).tdiv 2))) <|
        .load (a1.fst, a1.snd + 2) (.sl) fun s2 =>
        .nonnil (s2.fst) fun p3 =>
        .guard (((0 : Int) ≤ (y1.snd.fst + y1.fst).tdiv 2) ∧ (((y1.snd.fst + y1.fst).tdiv 2 : Int) < (↑s2.snd.fst : Int))) <|
        .load (p3.fst, p3.snd + ((y1.snd.fst + y1.fst).tdiv 2).toNat) (.int .i64) fun i4 =>
        .bind none (.ite (!decide (a2 < i4))
          (.guard (InK IntKind.i64 ((y1.snd.fst + y1.fst).tdiv 2 + 1)) <|
            .done .normal [.c (.int .i64 (y1.fst)), .c (.int .i64 ((y1.snd.fst + y1.fst).tdiv 2 + 1))])
          (.done .normal [.c (.int .i64 ((y1.snd.fst + y1.fst).tdiv 2)), .c (.int .i64 (y1.snd.fst))])) [.c (.int .i64), .c (.int .i64)] fun x5 =>
        .done .normal [.c (.int .i64 (x5.fst)), .c (.int .i64 (x5.snd.fst))])
      (.done (.exit 0) [.c (.int .i64 (y1.snd.fst))])) [.c (.int .i64)] fun x6 =>
  .bind none (.ite (decide (x6.fst > 0))
    (.load (a1.fst, a1.snd + 2) (.sl) fun s7 =>
      .guard (InK IntKind.i64 (x6.fst - 1)) <|
      .nonnil (s7.fst) fun p8 =>
      .guard (((0 : Int) ≤ x6.fst - 1) ∧ ((x6.fst - 1 : Int) < (↑s7.snd.fst : Int))) <|
      .load (p8.fst, p8.snd + (x6.fst - 1).toNat) (.int .i64) fun i9 =>
      .done .normal [.c (.bool (!decide (i9 < a2)))])
    (.done .normal [.c (.ff)])) [.c (.bool)] fun x10 =>
  .ite (x10.fst)
  (.guard (InK IntKind.i64 (x6.fst - 1)) <|
    .done .ret [.c (.int .i64 (x6.fst - 1)), .c (.tt)])
  (.done .ret [.c (.int .i64 (x6.fst)), .c (.ff)])
theorem den_ms_search (a0 : PA) (a1 : PA) (a2 : Int) : denFn Try.prog Try.f106 [.c (.addr a0), .c (.addr a1), .c (.int .i64 a2)] = M_ms_search a0 a1 a2 := by kernel_rfl
theorem hc_ms_search (a0 : PA) (a1 : PA) (a2 : Int) {h : H} {R : Value → H → Prop} (hw : wp Try.prog (M_ms_search a0 a1 a2) (Ret R) h) : HC Try.prog fn_ms_search (List.map AV.val [.c (.addr a0), .c (.addr a1), .c (.int .i64 a2)]).toArray h R :=
  den_calls hmix Try.func106 (of_decide_eq_true rfl) (by rw [den_ms_search]; exact hw)
def M_ns_leaf (a0 : PA) : M :=
  .load (a0.fst, a0.snd + 3) (.ptr) fun q0 =>
  .done .ret [.c (.bool (Option.isNone q0))]
theorem den_ns_leaf (a0 : PA) : denFn Try.prog Try.f77 [.c (.addr a0)] = M_ns_leaf a0 := by kernel_rfl
theorem hc_ns_leaf (a0 : PA) {h : H} {R : Value → H → Prop} (hw : wp Try.prog (M_ns_leaf a0) (Ret R) h) : HC Try.prog fn_ns_leaf (List.map AV.val [.c (.addr a0)]).toArray h R :=
  den_calls hmix Try.func77 (of_decide_eq_true rfl) (by rw [den_ns_leaf]; exact hw)
def M_ns_updateCount (a0 : PA) : M :=
  .load (a0.fst, a0.snd + 2) (.sl) fun s0 =>
  .store (a0.fst, a0.snd + 1) (.int .i64 ((↑s0.snd.fst : Int))) <|
  .call fn_ns_leaf [.c (.addr a0)] false [.c (.bool)] fun r1 =>
  .bind none (.ite (!r1.fst)
    (.bind (some 0) (.loop [.c (.int .i64)] [.c (.int .i64 (0))] fun y2 =>
          .load (a0.fst, a0.snd + 3) (.ptr) fun q3 =>
          .nonnil (q3) fun p4 =>
          .load p4 (.sl) fun s5 =>
          .ite (decide (y2.fst < (↑s5.snd.fst : Int)))
          (.load (a0.fst, a0.snd + 1) (.int .i64) fun i6 =>
            .load (a0.fst, a0.snd + 3) (.ptr) fun q7 =>
            .nonnil (q7) fun p8 =>
            .load p8 (.sl) fun s9 =>
            .nonnil (s9.fst) fun p10 =>
            .guard (((0 : Int) ≤ y2.fst) ∧ ((y2.fst : Int) < (↑s9.snd.fst : Int))) <|
            .load (p10.fst, p10.snd + Int.toNat y2.fst) (.ptr) fun q11 =>
            .nonnil (q11) fun p12 =>
            .load (p12.fst, p12.snd + 1) (.int .i64) fun i13 =>
            .guard (InK IntKind.i64 (i6 + i13)) <|
            .store (a0.fst, a0.snd + 1) (.int .i64 (i6 + i13)) <|
            .guard (InK IntKind.i64 (y2.fst + 1)) <|
            .done .normal [.c (.int .i64 (y2.fst + 1))])
          (.done (.exit 0) [])) [] fun x14 =>
      .done .normal [])
    (.done .normal [])) [] fun x15 =>
  .done .ret []
theorem den_ns_updateCount (a0 : PA) : denFn Try.prog Try.f97 [.c (.addr a0)] = M_ns_updateCount a0 := by kernel_rfl
theorem hc_ns_updateCount (a0 : PA) {h : H} {R : Value → H → Prop} (hw : wp Try.prog (M_ns_updateCount a0) (Ret R) h) : HC Try.prog fn_ns_updateCount (List.map AV.val [.c (.addr a0)]).toArray h R :=
  den_calls hmix Try.func97 (of_decide_eq_true rfl) (by rw [den_ns_updateCount]; exact hw)
def M_set_Insert (a0 : PA) (a1 : Int) : M :=
  .call fn_ms_Set [.c (.addr (a0.fst, a0.snd)), .c (.int .i64 (a1)), .agg []] true [.agg [], .c (.bool)] fun r0 =>
  .done .ret []
theorem den_set_Insert (a0 : PA) (a1 : Int) : denFn Try.prog Try.f47 [.c (.addr a0), .c (.int .i64 a1)] = M_set_Insert a0 a1 := by kernel_rfl
theorem hc_set_Insert (a0 : PA) (a1 : Int) {h : H} {R : Value → H → Prop} (hw : wp Try.prog (M_set_Insert a0 a1) (Ret R) h) : HC Try.prog fn_set_Insert (List.map AV.val [.c (.addr a0), .c (.int .i64 a1)]).toArray h R :=
  den_calls hmix Try.func47 (of_decide_eq_true rfl) (by rw [den_set_Insert]; exact hw)
def M_set_Keys (a0 : PA) : M :=
  .call fn_ms_Keys [.c (.addr (a0.fst, a0.snd))] false [.c (.sl)] fun r0 =>
  .done .ret [.c (.sl (r0.fst.fst) (r0.fst.snd.fst) (r0.fst.snd.snd))]
theorem den_set_Keys (a0 : PA) : denFn Try.prog Try.f41 [.c (.addr a0)] = M_set_Keys a0 := by kernel_rfl
theorem hc_set_Keys (a0 : PA) {h : H} {R : Value → H → Prop} (hw : wp Try.prog (M_set_Keys a0) (Ret R) h) : HC Try.prog fn_set_Keys (List.map AV.val [.c (.addr a0)]).toArray h R :=
  den_calls hmix Try.func41 (of_decide_eq_true rfl) (by rw [den_set_Keys]; exact hw)
def M_set_Len (a0 : PA) : M :=
  .call fn_ms_Len [.c (.addr (a0.fst, a0.snd))] false [.c (.int .i64)] fun r0 =>
  .done .ret [.c (.int .i64 (r0.fst))]
theorem den_set_Len (a0 : PA) : denFn Try.prog Try.f46 [.c (.addr a0)] = M_set_Len a0 := by kernel_rfl
theorem hc_set_Len (a0 : PA) {h : H} {R : Value → H → Prop} (hw : wp Try.prog (M_set_Len a0) (Ret R) h) : HC Try.prog fn_set_Len (List.map AV.val [.c (.addr a0)]).toArray h R :=
  den_calls hmix Try.func46 (of_decide_eq_true rfl) (by rw [den_set_Len]; exact hw)
def M_set_Reverse (a0 : PA) (a1 : Value) : M :=
  .alloc ty_func_int_bool [.raw (a1)] fun n0 =>
  .call fn_ms_Reverse [.c (.addr (a0.fst, a0.snd)), .c (.raw (Value.func (Fn.func fn_set_Reverse_1) (List.map AV.val []).toArray (List.map AV.val [AV.c (Cell.addr (n0, 0))]).toArray))] true [] fun r1 =>
  .done .ret []
theorem den_set_Reverse (a0 : PA) (a1 : Value) : denFn Try.prog Try.f44 [.c (.addr a0), .c (.raw a1)] = M_set_Reverse a0 a1 := by kernel_rfl
theorem hc_set_Reverse (a0 : PA) (a1 : Value) {h : H} {R : Value → H → Prop} (hw : wp Try.prog (M_set_Reverse a0 a1) (Ret R) h) : HC Try.prog fn_set_Reverse (List.map AV.val [.c (.addr a0), .c (.raw a1)]).toArray h R :=
  den_calls hmix Try.func44 (of_decide_eq_true rfl) (by rw [den_set_Reverse]; exact hw)
def M_set_Reverse_1 (a0 : Int) (f0 : PA) : M :=
  .alloc ty_struct [] fun n0 =>
  .load f0 (.raw) fun v1 =>
  .callv (v1) [.c (.int .i64 (a0))] false [.c (.bool)] fun r2 =>
  .done .ret [.c (.bool (r2.fst))]
theorem den_set_Reverse_1 (a0 : Int) (f0 : PA) : denFn Try.prog Try.f74 [.c (.int .i64 a0), .agg [], .c (.addr f0)] = M_set_Reverse_1 a0 f0 := by kernel_rfl
theorem hc_set_Reverse_1 (a0 : Int) (f0 : PA) {h : H} {R : Value → H → Prop} (hw : wp Try.prog (M_set_Reverse_1 a0 f0) (Ret R) h) : HC Try.prog fn_set_Reverse_1 (List.map AV.val [.c (.int .i64 a0), .agg [], .c (.addr f0)]).toArray h R :=
  den_calls hmix Try.func74 (of_decide_eq_true rfl) (by rw [den_set_Reverse_1]; exact hw)
def M_set_Scan (a0 : PA) (a1 : Value) : M :=
  .alloc ty_func_int_bool [.raw (a1)] fun n0 =>
  .call fn_ms_Scan [.c (.addr (a0.fst, a0.snd)), .c (.raw (Value.func (Fn.func fn_set_Scan_1) (List.map AV.val []).toArray (List.map AV.val [AV.c (Cell.addr (n0, 0))]).toArray))] true [] fun r1 =>
  .done .ret []
theorem den_set_Scan (a0 : PA) (a1 : Value) : denFn Try.prog Try.f42 [.c (.addr a0), .c (.raw a1)] = M_set_Scan a0 a1 := by kernel_rfl
theorem hc_set_Scan (a0 : PA) (a1 : Value) {h : H} {R : Value → H → Prop} (hw : wp Try.prog (M_set_Scan a0 a1) (Ret R) h) : HC Try.prog fn_set_Scan (List.map AV.val [.c (.addr a0), .c (.raw a1)]).toArray h R :=
  den_calls hmix Try.func42 (of_decide_eq_true rfl) (by rw [den_set_Scan]; exact hw)
def M_set_Scan_1 (a0 : Int) (f0 : PA) : M :=
  .alloc ty_struct [] fun n0 =>
  .load f0 (.raw) fun v1 =>
  .callv (v1) [.c (.int .i64 (a0))] false [.c (.bool)] fun r2 =>
  .done .ret [.c (.bool (r2.fst))]
theorem den_set_Scan_1 (a0 : Int) (f0 : PA) : denFn Try.prog Try.f71 [.c (.int .i64 a0), .agg [], .c (.addr f0)] = M_set_Scan_1 a0 f0 := by kernel_rfl
theorem hc_set_Scan_1 (a0 : Int) (f0 : PA) {h : H} {R : Value → H → Prop} (hw : wp Try.prog (M_set_Scan_1 a0 f0) (Ret R) h) : HC Try.prog fn_set_Scan_1 (List.map AV.val [.c (.int .i64 a0), .agg [], .c (.addr f0)]).toArray h R :=
  den_calls hmix Try.func71 (of_decide_eq_true rfl) (by rw [den_set_Scan_1]; exact hw)
end Go.Proofs.Ytpbmahnieepmiaa
