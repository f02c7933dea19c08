/-
  Functions of the translation as typed programs, and that each is its function's reading. Written by a program of ours (gen2.py). Conditions: none.
-/
import Derived.Test.YtegnpimlfphncaaNm
namespace Go.Proofs.Ytegnpimlfphncaa
open Go
set_option maxRecDepth 100000
set_option linter.unusedVariables false
def M_NewBTreeGOptions (a0 : Value) (a10 : Int) (a11 : Bool) : M :=
 .alloc ty_btree_Options [.int .i64 (a10), .bool (a11)] fun n0 =>
 .alloc ty_btree_BTreeG_pub_greenwood_impl_Item [.int .u64 (0), .ptr none, .ptr none, .int .i64 (0), .ff, .ff, .raw (Value.nilFunc), .int .i64 (0), .int .i64 (0), .int .i64 (0), .int .i64 (0)] fun n1 =>
 .alloc ty_uint64 [.int .u64 (0)] fun n2 =>
 .store (n1, 1) (.addr (n2, 0)) <|
 .load (n1, 1) (.ptr) fun q3 =>
 .call fn_newIsoID [.c (.ptr (q3))] false [.c (.int .u64)] fun r4 =>
 .store (n1, 0) (.int .u64 (r4.fst)) <|
 .store (n1, 6) (.raw (a0)) <|
 .load (n0, 0) (.int .i64) fun i5 =>
 .call fn_tg_init [.c (.addr (n1, 0)), .c (.int .i64 (i5))] true [] fun r6 =>
 .done .ret [.c (.addr (n1, 0))]
theorem den_NewBTreeGOptions (a0 : Value) (a10 : Int) (a11 : Bool) : denFn Try.prog Try.f28 [.c (.raw a0), .agg [.int .i64 a10, .bool a11]] = M_NewBTreeGOptions a0 a10 a11 := by kernel_rfl
theorem hc_NewBTreeGOptions (a0 : Value) (a10 : Int) (a11 : Bool) {h : H} {R : Value → H → Prop} (hw : wp Try.prog (M_NewBTreeGOptions a0 a10 a11) (Ret R) h) : HC Try.prog fn_NewBTreeGOptions (List.map AV.val [.c (.raw a0), .agg [.int .i64 a10, .bool a11]]).toArray h R :=
  den_calls hmix Try.func28 (of_decide_eq_true rfl) (by rw [den_NewBTreeGOptions]; exact hw)
def M_degreeToMinMax (a0 : Int) : M :=
 .bind none (.ite (decide (a0 ≤ 0))
 (.done .normal [.c (.int .i64 (32))])
 (.bind none (.ite (a0 == 1)
 (.done .normal [.c (.int .i64 (2))])
 (.done .normal [.c (.int .i64 (a0))])) [.c (.int .i64)] fun x0 =>
 .done .normal [.c (.int .i64 (x0.fst))])) [.c (.int .i64)] fun x1 =>
 .guard (InK IntKind.i64 (x1.fst * 2)) <|
 .guard (InK IntKind.i64 (x1.fst * 2 - 1)) <|
 .guard (((2 : Int) ≠ 0) ∧ (InK IntKind.i64 ((x1.fst * 2 - 1).tdiv 2))) <|
 .done .ret [.c (.int .i64 ((x1.fst * 2 - 1).tdiv 2)), .c (.int .i64 (x1.fst * 2 - 1))]
theorem den_degreeToMinMax (a0 : Int) : denFn Try.prog Try.f63 [.c (.int .i64 a0)] = M_degreeToMinMax a0 := by kernel_rfl
theorem hc_degreeToMinMax (a0 : Int) {h : H} {R : Value → H → Prop} (hw : wp Try.prog (M_degreeToMinMax a0) (Ret R) h) : HC Try.prog fn_degreeToMinMax (List.map AV.val [.c (.int .i64 a0)]).toArray h R :=
  den_calls hmix Try.func63 (of_decide_eq_true rfl) (by rw [den_degreeToMinMax]; exact hw)
def M_newIsoID (a0 : PA) : M :=
 .load a0 (.int .u64) fun i0 =>
 .guard (InK IntKind.u64 (i0 + 1)) <|
 .store a0 (.int .u64 (i0 + 1)) <|
 .load a0 (.int .u64) fun i1 =>
 .done .ret [.c (.int .u64 (i1))]
theorem den_newIsoID (a0 : PA) : denFn Try.prog Try.f44 [.c (.addr a0)] = M_newIsoID a0 := by kernel_rfl
theorem hc_newIsoID (a0 : PA) {h : H} {R : Value → H → Prop} (hw : wp Try.prog (M_newIsoID a0) (Ret R) h) : HC Try.prog fn_newIsoID (List.map AV.val [.c (.addr a0)]).toArray h R :=
  den_calls hmix Try.func44 (of_decide_eq_true rfl) (by rw [den_newIsoID]; exact hw)
def M_ng_leaf (a0 : PA) : M :=
 .load (a0.fst, a0.snd + 3) (.ptr) fun q0 =>
 .done .ret [.c (.bool (Option.isNone q0))]
theorem den_ng_leaf (a0 : PA) : denFn Try.prog Try.f41 [.c (.addr a0)] = M_ng_leaf a0 := by kernel_rfl
theorem hc_ng_leaf (a0 : PA) {h : H} {R : Value → H → Prop} (hw : wp Try.prog (M_ng_leaf a0) (Ret R) h) : HC Try.prog fn_ng_leaf (List.map AV.val [.c (.addr a0)]).toArray h R :=
  den_calls hmix Try.func41 (of_decide_eq_true rfl) (by rw [den_ng_leaf]; exact hw)
def M_ng_updateCount (a0 : PA) : M :=
 .load (a0.fst, a0.snd + 2) (.sl) fun s0 =>
 .store (a0.fst, a0.snd + 1) (.int .i64 ((↑s0.snd.fst : Int))) <|
 .call fn_ng_leaf [.c (.addr a0)] false [.c (.bool)] fun r1 =>
 .bind none (.ite (!r1.fst)
 (.bind (some 0) (.loop [.c (.int .i64)] [.c (.int .i64 (0))] fun y2 =>
 .load (a0.fst, a0.snd + 3) (.ptr) fun q3 =>
 .nonnil (q3) fun p4 =>
 .load p4 (.sl) fun s5 =>
 .ite (decide (y2.fst < (↑s5.snd.fst : Int)))
 (.load (a0.fst, a0.snd + 1) (.int .i64) fun i6 =>
 .load (a0.fst, a0.snd + 3) (.ptr) fun q7 =>
 .nonnil (q7) fun p8 =>
 .load p8 (.sl) fun s9 =>
 .nonnil (s9.fst) fun p10 =>
 .guard (((0 : Int) ≤ y2.fst) ∧ ((y2.fst : Int) < (↑s9.snd.fst : Int))) <|
 .load (p10.fst, p10.snd + Int.toNat y2.fst) (.ptr) fun q11 =>
 .nonnil (q11) fun p12 =>
 .load (p12.fst, p12.snd + 1) (.int .i64) fun i13 =>
 .guard (InK IntKind.i64 (i6 + i13)) <|
 .store (a0.fst, a0.snd + 1) (.int .i64 (i6 + i13)) <|
 .guard (InK IntKind.i64 (y2.fst + 1)) <|
 .done .normal [.c (.int .i64 (y2.fst + 1))])
 (.done (.exit 0) [])) [] fun x14 =>
 .done .normal [])
 (.done .normal [])) [] fun x15 =>
 .done .ret []
theorem den_ng_updateCount (a0 : PA) : denFn Try.prog Try.f72 [.c (.addr a0)] = M_ng_updateCount a0 := by kernel_rfl
theorem hc_ng_updateCount (a0 : PA) {h : H} {R : Value → H → Prop} (hw : wp Try.prog (M_ng_updateCount a0) (Ret R) h) : HC Try.prog fn_ng_updateCount (List.map AV.val [.c (.addr a0)]).toArray h R :=
  den_calls hmix Try.func72 (of_decide_eq_true rfl) (by rw [den_ng_updateCount]; exact hw)
def M_tg_Less (a0 : PA) (a10 : Int) (a11 : Int) (a20 : Int) (a21 : Int) : M :=
 .alloc ty_impl_Item [.int .i64 (a10), .int .i64 (a11)] fun n0 =>
 .alloc ty_impl_Item [.int .i64 (a20), .int .i64 (a21)] fun n1 =>
 .load (a0.fst, a0.snd + 6) (.raw) fun v2 =>
 .load (n0, 0) (.int .i64) fun i3 =>
 .load (n0, 1) (.int .i64) fun i4 =>
 .load (n1, 0) (.int .i64) fun i5 =>
 .load (n1, 1) (.int .i64) fun i6 =>
 .callv (v2) [.agg [.int .i64 (i3), .int .i64 (i4)], .agg [.int .i64 (i5), .int .i64 (i6)]] false [.c (.bool)] fun r7 =>
 .done .ret [.c (.bool (r7.fst))]
theorem den_tg_Less (a0 : PA) (a10 : Int) (a11 : Int) (a20 : Int) (a21 : Int) : denFn Try.prog Try.f67 [.c (.addr a0), .agg [.int .i64 a10, .int .i64 a11], .agg [.int .i64 a20, .int .i64 a21]] = M_tg_Less a0 a10 a11 a20 a21 := by kernel_rfl
theorem hc_tg_Less (a0 : PA) (a10 : Int) (a11 : Int) (a20 : Int) (a21 : Int) {h : H} {R : Value → H → Prop} (hw : wp Try.prog (M_tg_Less a0 a10 a11 a20 a21) (Ret R) h) : HC Try.prog fn_tg_Less (List.map AV.val [.c (.addr a0), .agg [.int .i64 a10, .int .i64 a11], .agg [.int .i64 a20, .int .i64 a21]]).toArray h R :=
  den_calls hmix Try.func67 (of_decide_eq_true rfl) (by rw [den_tg_Less]; exact hw)
def M_tg_Set (a0 : PA) (a10 : Int) (a11 : Int) : M :=
 .alloc ty_impl_Item [.int .i64 (a10), .int .i64 (a11)] fun n0 =>
 .alloc ty_impl_Item [.int .i64 (0), .int .i64 (0)] fun n1 =>
 .load (n0, 0) (.int .i64) fun i2 =>
 .load (n0, 1) (.int .i64) fun i3 =>
 .call fn_tg_SetHint [.c (.addr a0), .agg [.int .i64 (i2), .int .i64 (i3)], .c (.ptr none)] true [.agg [.int .i64, .int .i64], .c (.bool)] fun r4 =>
 .store (n1, 0) (.int .i64 (r4.fst.fst)) <|
 .store (n1, 1) (.int .i64 (r4.fst.snd.fst)) <|
 .load (n1, 0) (.int .i64) fun i5 =>
 .load (n1, 1) (.int .i64) fun i6 =>
 .done .ret [.agg [.int .i64 (i5), .int .i64 (i6)], .c (.bool (r4.snd.fst))]
theorem den_tg_Set (a0 : PA) (a10 : Int) (a11 : Int) : denFn Try.prog Try.f31 [.c (.addr a0), .agg [.int .i64 a10, .int .i64 a11]] = M_tg_Set a0 a10 a11 := by kernel_rfl
theorem hc_tg_Set (a0 : PA) (a10 : Int) (a11 : Int) {h : H} {R : Value → H → Prop} (hw : wp Try.prog (M_tg_Set a0 a10 a11) (Ret R) h) : HC Try.prog fn_tg_Set (List.map AV.val [.c (.addr a0), .agg [.int .i64 a10, .int .i64 a11]]).toArray h R :=
  den_calls hmix Try.func31 (of_decide_eq_true rfl) (by rw [den_tg_Set]; exact hw)
def M_tg_SetHint (a0 : PA) (a10 : Int) (a11 : Int) (a2 : Option PA) : M :=
 .alloc ty_impl_Item [.int .i64 (a10), .int .i64 (a11)] fun n0 =>
 .alloc ty_impl_Item [.int .i64 (0), .int .i64 (0)] fun n1 =>
 .load (n0, 0) (.int .i64) fun i2 =>
 .load (n0, 1) (.int .i64) fun i3 =>
 .call fn_tg_setHint [.c (.addr a0), .agg [.int .i64 (i2), .int .i64 (i3)], .c (.ptr (a2))] true [.agg [.int .i64, .int .i64], .c (.bool)] fun r4 =>
 .store (n1, 0) (.int .i64 (r4.fst.fst)) <|
 .store (n1, 1) (.int .i64 (r4.fst.snd.fst)) <|
 .load (n1, 0) (.int .i64) fun i5 =>
 .load (n1, 1) (.int .i64) fun i6 =>
 .store (n1, 0) (.int .i64 (i5)) <|
 .store (n1, 1) (.int .i64 (i6)) <|
 .load (n1, 0) (.int .i64) fun i7 =>
 .load (n1, 1) (.int .i64) fun i8 =>
 .done .ret [.agg [.int .i64 (i7), .int .i64 (i8)], .c (.bool (r4.snd.fst))]
theorem den_tg_SetHint (a0 : PA) (a10 : Int) (a11 : Int) (a2 : Option PA) : denFn Try.prog Try.f49 [.c (.addr a0), .agg [.int .i64 a10, .int .i64 a11], .c (.ptr a2)] = M_tg_SetHint a0 a10 a11 a2 := by kernel_rfl
theorem hc_tg_SetHint (a0 : PA) (a10 : Int) (a11 : Int) (a2 : Option PA) {h : H} {R : Value → H → Prop} (hw : wp Try.prog (M_tg_SetHint a0 a10 a11 a2) (Ret R) h) : HC Try.prog fn_tg_SetHint (List.map AV.val [.c (.addr a0), .agg [.int .i64 a10, .int .i64 a11], .c (.ptr a2)]).toArray h R :=
  den_calls hmix Try.func49 (of_decide_eq_true rfl) (by rw [den_tg_SetHint]; exact hw)
def M_tg_bsearch (a0 : PA) (a1 : PA) (a20 : Int) (a21 : Int) : M :=
 .alloc ty_impl_Item [.int .i64 (a20), .int .i64 (a21)] fun n0 =>
 .load (a1.fst, a1.snd + 2) (.sl) fun s1 =>
 .bind (some 0) (.loop [.c (.int .i64), .c (.int .i64)] [.c (.int .i64 ((↑s1.snd.fst : Int))), .c (.int .i64 (0))] fun y2 =>
 .ite (decide (y2.snd.fst < y2.fst))
 (.guard (InK IntKind.i64 (y2.snd.fst + y2.fst)) <|
 .guard (InK IntKind.u64 (y2.snd.fst + y2.fst)) <|
 .guard (((0 : Int) ≤ 1) ∧ (1 ≤ 64)) <|
 .guard (InK IntKind.i64 ((y2.snd.fst + y2.fst).fdiv (2 ^ 1))) <|
 .load (a0.fst, a0.snd + 6) (.raw) fun v3 =>
 .load (n0, 0) (.int .i64) fun i4 =>
 .load (n0, 1) (.int .i64) fun i5 =>
 .load (a1.fst, a1.snd + 2) (.sl) fun s6 =>
 .nonnil (s6.fst) fun p7 =>
 .guard (((0 : Int) ≤ (y2.snd.fst + y2.fst).fdiv (2 ^ 1)) ∧ (((y2.snd.fst + y2.fst).fdiv (2 ^ 1) : Int) < (↑s6.snd.fst : Int))) <|
 .load (p7.fst, p7.snd + mulN ((y2.snd.fst + y2.fst).fdiv (2 ^ 1)).toNat 2) (.int .i64) fun i8 =>
 .load (p7.fst, p7.snd + mulN ((y2.snd.fst + y2.fst).fdiv (2 ^ 1)).toNat 2 + 1) (.int .i64) fun i9 =>
 .callv (v3) [.agg [.int .i64 (i4), .int .i64 (i5)], .agg [.int .i64 (i8), .int .i64 (i9)]] false [.c (.bool)] fun r10 =>
 .bind none (.ite (!r10.fst)
 (.guard (InK IntKind.i64 ((y2.snd.fst + y2.fst).fdiv (2 ^ 1) + 1)) <|
 .done .normal [.c (.int .i64 (y2.fst)), .c (.int .i64 ((y2.snd.fst + y2.fst).fdiv (2 ^ 1) + 1))])
 (.done .normal [.c (.int .i64 ((y2.snd.fst + y2.fst).fdiv (2 ^ 1))), .c (.int .i64 (y2.snd.fst))])) [.c (.int .i64), .c (.int .i64)] fun x11 =>
 .done .normal [.c (.int .i64 (x11.fst)), .c (.int .i64 (x11.snd.fst))])
 (.done (.exit 0) [.c (.int .i64 (y2.snd.fst))])) [.c (.int .i64)] fun x12 =>
 .bind none (.ite (decide (x12.fst > 0))
 (.load (a0.fst, a0.snd + 6) (.raw) fun v13 =>
 .load (a1.fst, a1.snd + 2) (.sl) fun s14 =>
 .guard (InK IntKind.i64 (x12.fst - 1)) <|
 .nonnil (s14.fst) fun p15 =>
 .guard (((0 : Int) ≤ x12.fst - 1) ∧ ((x12.fst - 1 : Int) < (↑s14.snd.fst : Int))) <|
 .load (p15.fst, p15.snd + mulN (x12.fst - 1).toNat 2) (.int .i64) fun i16 =>
 .load (p15.fst, p15.snd + mulN (x12.fst - 1).toNat 2 + 1) (.int .i64) fun i17 =>
 .load (n0, 0) (.int .i64) fun i18 =>
 .load (n0, 1) (.int .i64) fun i19 =>
 .callv (v13) [.agg [.int .i64 (i16), .int .i64 (i17)], .agg [.int .i64 (i18), .int .i64 (i19)]] false [.c (.bool)] fun r20 =>
 .done .normal [.c (.bool (!r20.fst))])
 (.done .normal [.c (.ff)])) [.c (.bool)] fun x21 =>
 .ite (x21.fst)
 (.guard (InK IntKind.i64 (x12.fst - 1)) <|
 .done .ret [.c (.int .i64 (x12.fst - 1)), .c (.tt)])
 (.done .ret [.c (.int .i64 (x12.fst)), .c (.ff)])
theorem den_tg_bsearch (a0 : PA) (a1 : PA) (a20 : Int) (a21 : Int) : denFn Try.prog Try.f59 [.c (.addr a0), .c (.addr a1), .agg [.int .i64 a20, .int .i64 a21]] = M_tg_bsearch a0 a1 a20 a21 := by kernel_rfl
theorem hc_tg_bsearch (a0 : PA) (a1 : PA) (a20 : Int) (a21 : Int) {h : H} {R : Value → H → Prop} (hw : wp Try.prog (M_tg_bsearch a0 a1 a20 a21) (Ret R) h) : HC Try.prog fn_tg_bsearch (List.map AV.val [.c (.addr a0), .c (.addr a1), .agg [.int .i64 a20, .int .i64 a21]]).toArray h R :=
  den_calls hmix Try.func59 (of_decide_eq_true rfl) (by rw [den_tg_bsearch]; exact hw)
def M_tg_find (a0 : PA) (a1 : PA) (a20 : Int) (a21 : Int) (a3 : Option PA) (a4 : Int) : M :=
 .alloc ty_impl_Item [.int .i64 (a20), .int .i64 (a21)] fun n0 =>
 .ite (a3.isNone)
 (.load (n0, 0) (.int .i64) fun i1 =>
 .load (n0, 1) (.int .i64) fun i2 =>
 .call fn_tg_bsearch [.c (.addr a0), .c (.addr a1), .agg [.int .i64 (i1), .int .i64 (i2)]] true [.c (.int .i64), .c (.bool)] fun r3 =>
 .done .ret [.c (.int .i64 (r3.fst)), .c (.bool (r3.snd.fst))])
 (.load (n0, 0) (.int .i64) fun i4 =>
 .load (n0, 1) (.int .i64) fun i5 =>
 .call fn_tg_hintsearch [.c (.addr a0), .c (.addr a1), .agg [.int .i64 (i4), .int .i64 (i5)], .c (.ptr (a3)), .c (.int .i64 (a4))] true [.c (.int .i64), .c (.bool)] fun r6 =>
 .done .ret [.c (.int .i64 (r6.fst)), .c (.bool (r6.snd.fst))])
theorem den_tg_find (a0 : PA) (a1 : PA) (a20 : Int) (a21 : Int) (a3 : Option PA) (a4 : Int) : denFn Try.prog Try.f39 [.c (.addr a0), .c (.addr a1), .agg [.int .i64 a20, .int .i64 a21], .c (.ptr a3), .c (.int .i64 a4)] = M_tg_find a0 a1 a20 a21 a3 a4 := by kernel_rfl
theorem hc_tg_find (a0 : PA) (a1 : PA) (a20 : Int) (a21 : Int) (a3 : Option PA) (a4 : Int) {h : H} {R : Value → H → Prop} (hw : wp Try.prog (M_tg_find a0 a1 a20 a21 a3 a4) (Ret R) h) : HC Try.prog fn_tg_find (List.map AV.val [.c (.addr a0), .c (.addr a1), .agg [.int .i64 a20, .int .i64 a21], .c (.ptr a3), .c (.int .i64 a4)]).toArray h R :=
  den_calls hmix Try.func39 (of_decide_eq_true rfl) (by rw [den_tg_find]; exact hw)
def M_tg_hintsearch (a0 : PA) (a1 : PA) (a20 : Int) (a21 : Int) (a3 : Option PA) (a4 : Int) : M :=
 .alloc ty_impl_Item [.int .i64 (a20), .int .i64 (a21)] fun n0 =>
 .bind (some 1000) (.load (a1.fst, a1.snd + 2) (.sl) fun s1 =>
 .guard (InK IntKind.i64 ((↑s1.snd.fst : Int) - 1)) <|
 .bind none (.ite (decide (a4 < 8))
 (.nonnil (a3) fun p2 =>
 .guard (((0 : Int) ≤ a4) ∧ ((a4 : Int) < (↑8 : Int))) <|
 .load (p2.fst, p2.snd + a4.toNat) (.bool) fun b3 =>
 .done .normal [.c (.bool (b3))])
 (.done .normal [.c (.ff)])) [.c (.bool)] fun x4 =>
 .bind none (.ite (x4.fst)
 (.nonnil (a3) fun p5 =>
 .guard (((0 : Int) ≤ a4) ∧ ((a4 : Int) < (↑8 : Int))) <|
 .load (p5.fst, p5.snd + 8 + a4.toNat) (.int .u8) fun i6 =>
 .guard (InK IntKind.i64 i6) <|
 .load (a1.fst, a1.snd + 2) (.sl) fun s7 =>
 .bind none (.ite (decide (i6 ≥ (↑s7.snd.fst : Int)))
 (.load (a1.fst, a1.snd + 2) (.sl) fun s8 =>
 .load (a1.fst, a1.snd + 2) (.sl) fun s9 =>
 .guard (InK IntKind.i64 ((↑s9.snd.fst : Int) - 1)) <|
 .nonnil (s8.fst) fun p10 =>
 .guard (((0 : Int) ≤ (↑s9.snd.fst : Int) - 1) ∧ (((↑s9.snd.fst : Int) - 1 : Int) < (↑s8.snd.fst : Int))) <|
 .load (p10.fst, p10.snd + mulN ((↑s9.snd.fst : Int) - 1).toNat 2) (.int .i64) fun i11 =>
 .load (p10.fst, p10.snd + mulN ((↑s9.snd.fst : Int) - 1).toNat 2 + 1) (.int .i64) fun i12 =>
 .load (n0, 0) (.int .i64) fun i13 =>
 .load (n0, 1) (.int .i64) fun i14 =>
 .call fn_tg_Less [.c (.addr a0), .agg [.int .i64 (i11), .int .i64 (i12)], .agg [.int .i64 (i13), .int .i64 (i14)]] false [.c (.bool)] fun r15 =>
 .ite (r15.fst)
 (.load (a1.fst, a1.snd + 2) (.sl) fun s16 =>
 .done (.exit 1000) [.c (.ff), .c (.int .i64 ((↑s16.snd.fst : Int)))])
 (.load (a1.fst, a1.snd + 2) (.sl) fun s17 =>
 .guard (InK IntKind.i64 ((↑s17.snd.fst : Int) - 1)) <|
 .done .normal [.c (.int .i64 ((↑s17.snd.fst : Int) - 1))]))
 (.done .normal [.c (.int .i64 (i6))])) [.c (.int .i64)] fun x18 =>
 .load (n0, 0) (.int .i64) fun i19 =>
 .load (n0, 1) (.int .i64) fun i20 =>
 .load (a1.fst, a1.snd + 2) (.sl) fun s21 =>
 .nonnil (s21.fst) fun p22 =>
 .guard (((0 : Int) ≤ x18.fst) ∧ ((x18.fst : Int) < (↑s21.snd.fst : Int))) <|
 .load (p22.fst, p22.snd + mulN (Int.toNat x18.fst) 2) (.int .i64) fun i23 =>
 .load (p22.fst, p22.snd + mulN (Int.toNat x18.fst) 2 + 1) (.int .i64) fun i24 =>
 .call fn_tg_Less [.c (.addr a0), .agg [.int .i64 (i19), .int .i64 (i20)], .agg [.int .i64 (i23), .int .i64 (i24)]] false [.c (.bool)] fun r25 =>
 .bind none (.ite (r25.fst)
 (.bind none (.ite (x18.fst == 0)
 (.done .normal [.c (.tt)])
 (.load (a1.fst, a1.snd + 2) (.sl) fun s26 =>
 .guard (InK IntKind.i64 (x18.fst - 1)) <|
 .nonnil (s26.fst) fun p27 =>
 .guard (((0 : Int) ≤ x18.fst - 1) ∧ ((x18.fst - 1 : Int) < (↑s26.snd.fst : Int))) <|
 .load (p27.fst, p27.snd + mulN (x18.fst - 1).toNat 2) (.int .i64) fun i28 =>
 .load (p27.fst, p27.snd + mulN (x18.fst - 1).toNat 2 + 1) (.int .i64) fun i29 =>
 .load (n0, 0) (.int .i64) fun i30 =>
 .load (n0, 1) (.int .i64) fun i31 =>
 .call fn_tg_Less [.c (.addr a0), .agg [.int .i64 (i28), .int .i64 (i29)], .agg [.int .i64 (i30), .int .i64 (i31)]] false [.c (.bool)] fun r32 =>
 .done .normal [.c (.bool (r32.fst))])) [.c (.bool)] fun x33 =>
 .ite (x33.fst)
 (.done (.exit 1000) [.c (.ff), .c (.int .i64 (x18.fst))])
 (.guard (InK IntKind.i64 (x18.fst - 1)) <|
 .done .normal [.c (.int .i64 (0)), .c (.int .i64 (x18.fst - 1))]))
 (.load (a1.fst, a1.snd + 2) (.sl) fun s34 =>
 .nonnil (s34.fst) fun p35 =>
 .guard (((0 : Int) ≤ x18.fst) ∧ ((x18.fst : Int) < (↑s34.snd.fst : Int))) <|
 .load (p35.fst, p35.snd + mulN (Int.toNat x18.fst) 2) (.int .i64) fun i36 =>
 .load (p35.fst, p35.snd + mulN (Int.toNat x18.fst) 2 + 1) (.int .i64) fun i37 =>
 .load (n0, 0) (.int .i64) fun i38 =>
 .load (n0, 1) (.int .i64) fun i39 =>
 .call fn_tg_Less [.c (.addr a0), .agg [.int .i64 (i36), .int .i64 (i37)], .agg [.int .i64 (i38), .int .i64 (i39)]] false [.c (.bool)] fun r40 =>
 .ite (r40.fst)
 (.guard (InK IntKind.i64 (x18.fst + 1)) <|
 .done .normal [.c (.int .i64 (x18.fst + 1)), .c (.int .i64 ((↑s1.snd.fst : Int) - 1))])
 (.done (.exit 1000) [.c (.tt), .c (.int .i64 (x18.fst))]))) [.c (.int .i64), .c (.int .i64)] fun x41 =>
 .done .normal [.c (.int .i64 (x41.fst)), .c (.int .i64 (x41.snd.fst))])
 (.done .normal [.c (.int .i64 (0)), .c (.int .i64 ((↑s1.snd.fst : Int) - 1))])) [.c (.int .i64), .c (.int .i64)] fun x42 =>
 .bind (some 0) (.loop [.c (.int .i64), .c (.int .i64)] [.c (.int .i64 (x42.snd.fst)), .c (.int .i64 (x42.fst))] fun y43 =>
 .ite (decide (y43.snd.fst ≤ y43.fst))
 (.guard (InK IntKind.i64 (y43.fst + 1)) <|
 .guard (InK IntKind.i64 (y43.fst + 1 - y43.snd.fst)) <|
 .guard (((2 : Int) ≠ 0) ∧ (InK IntKind.i64 ((y43.fst + 1 - y43.snd.fst).tdiv 2))) <|
 .guard (InK IntKind.i64 (y43.snd.fst + (y43.fst + 1 - y43.snd.fst).tdiv 2)) <|
 .load (n0, 0) (.int .i64) fun i44 =>
 .load (n0, 1) (.int .i64) fun i45 =>
 .load (a1.fst, a1.snd + 2) (.sl) fun s46 =>
 .nonnil (s46.fst) fun p47 =>
 .guard (((0 : Int) ≤ y43.snd.fst + (y43.fst + 1 - y43.snd.fst).tdiv 2) ∧ ((y43.snd.fst + (y43.fst + 1 - y43.snd.fst).tdiv 2 : Int) < (↑s46.snd.fst : Int))) <|
 .load (p47.fst, p47.snd + mulN (y43.snd.fst + (y43.fst + 1 - y43.snd.fst).tdiv 2).toNat 2) (.int .i64) fun i48 =>
 .load (p47.fst, p47.snd + mulN (y43.snd.fst + (y43.fst + 1 - y43.snd.fst).tdiv 2).toNat 2 + 1) (.int .i64) fun i49 =>
 .call fn_tg_Less [.c (.addr a0), .agg [.int .i64 (i44), .int .i64 (i45)], .agg [.int .i64 (i48), .int .i64 (i49)]] false [.c (.bool)] fun r50 =>
 .bind none (.ite (!r50.fst)
 (.guard (InK IntKind.i64 (y43.snd.fst + (y43.fst + 1 - y43.snd.fst).tdiv 2 + 1)) <|
 .done .normal [.c (.int .i64 (y43.fst)), .c (.int .i64 (y43.snd.fst + (y43.fst + 1 - y43.snd.fst).tdiv 2 + 1))])
 (.guard (InK IntKind.i64 (y43.snd.fst + (y43.fst + 1 - y43.snd.fst).tdiv 2 - 1)) <|
 .done .normal [.c (.int .i64 (y43.snd.fst + (y43.fst + 1 - y43.snd.fst).tdiv 2 - 1)), .c (.int .i64 (y43.snd.fst))])) [.c (.int .i64), .c (.int .i64)] fun x51 =>
 .done .normal [.c (.int .i64 (x51.fst)), .c (.int .i64 (x51.snd.fst))])
 (.done (.exit 0) [.c (.int .i64 (y43.snd.fst))])) [.c (.int .i64)] fun x52 =>
 .bind none (.ite (decide (x52.fst > 0))
 (.load (a1.fst, a1.snd + 2) (.sl) fun s53 =>
 .guard (InK IntKind.i64 (x52.fst - 1)) <|
 .nonnil (s53.fst) fun p54 =>
 .guard (((0 : Int) ≤ x52.fst - 1) ∧ ((x52.fst - 1 : Int) < (↑s53.snd.fst : Int))) <|
 .load (p54.fst, p54.snd + mulN (x52.fst - 1).toNat 2) (.int .i64) fun i55 =>
 .load (p54.fst, p54.snd + mulN (x52.fst - 1).toNat 2 + 1) (.int .i64) fun i56 =>
 .load (n0, 0) (.int .i64) fun i57 =>
 .load (n0, 1) (.int .i64) fun i58 =>
 .call fn_tg_Less [.c (.addr a0), .agg [.int .i64 (i55), .int .i64 (i56)], .agg [.int .i64 (i57), .int .i64 (i58)]] false [.c (.bool)] fun r59 =>
 .done .normal [.c (.bool (!r59.fst))])
 (.done .normal [.c (.ff)])) [.c (.bool)] fun x60 =>
 .bind none (.ite (x60.fst)
 (.guard (InK IntKind.i64 (x52.fst - 1)) <|
 .done .normal [.c (.tt), .c (.int .i64 (x52.fst - 1))])
 (.done .normal [.c (.ff), .c (.int .i64 (x52.fst))])) [.c (.bool), .c (.int .i64)] fun x61 =>
 .done .normal [.c (.bool (x61.fst)), .c (.int .i64 (x61.snd.fst))]) [.c (.bool), .c (.int .i64)] fun x62 =>
 .bind none (.ite (decide (a4 < 8))
 (.nonnil (a3) fun p63 =>
 .guard (((0 : Int) ≤ a4) ∧ ((a4 : Int) < (↑8 : Int))) <|
 .store (p63.fst, p63.snd + a4.toNat) (.tt) <|
 .bind none (.call fn_ng_leaf [.c (.addr a1)] false [.c (.bool)] fun r64 =>
 .ite (r64.fst)
 (.done .normal [.c (.bool (x62.fst))])
 (.done .normal [.c (.ff)])) [.c (.bool)] fun x65 =>
 .bind none (.ite (x65.fst)
 (.guard (InK IntKind.i64 (x62.snd.fst + 1)) <|
 .guard (InK IntKind.u8 (x62.snd.fst + 1)) <|
 .done .normal [.c (.int .u8 (x62.snd.fst + 1))])
 (.guard (InK IntKind.u8 x62.snd.fst) <|
 .done .normal [.c (.int .u8 (x62.snd.fst))])) [.c (.int .u8)] fun x66 =>
 .nonnil (a3) fun p67 =>
 .guard (((0 : Int) ≤ a4) ∧ ((a4 : Int) < (↑8 : Int))) <|
 .load (p67.fst, p67.snd + 8 + a4.toNat) (.int .u8) fun i68 =>
 .bind none (.ite (x66.fst != i68)
 (.nonnil (a3) fun p69 =>
 .guard (((0 : Int) ≤ a4) ∧ ((a4 : Int) < (↑8 : Int))) <|
 .store (p69.fst, p69.snd + 8 + a4.toNat) (.int .u8 (x66.fst)) <|
 .guard (InK IntKind.i64 (a4 + 1)) <|
 .bind (some 2) (.loop [.c (.int .i64)] [.c (.int .i64 (a4 + 1))] fun y70 =>
 .ite (decide (y70.fst < 8))
 (.nonnil (a3) fun p71 =>
 .guard (((0 : Int) ≤ y70.fst) ∧ ((y70.fst : Int) < (↑8 : Int))) <|
 .store (p71.fst, p71.snd + Int.toNat y70.fst) (.ff) <|
 .guard (InK IntKind.i64 (y70.fst + 1)) <|
 .done .normal [.c (.int .i64 (y70.fst + 1))])
 (.done (.exit 2) [])) [] fun x72 =>
 .done .normal [])
 (.done .normal [])) [] fun x73 =>
 .done .normal [])
 (.done .normal [])) [] fun x74 =>
 .done .ret [.c (.int .i64 (x62.snd.fst)), .c (.bool (x62.fst))]
theorem den_tg_hintsearch (a0 : PA) (a1 : PA) (a20 : Int) (a21 : Int) (a3 : Option PA) (a4 : Int) : denFn Try.prog Try.f60 [.c (.addr a0), .c (.addr a1), .agg [.int .i64 a20, .int .i64 a21], .c (.ptr a3), .c (.int .i64 a4)] = M_tg_hintsearch a0 a1 a20 a21 a3 a4 := by kernel_rfl
theorem hc_tg_hintsearch (a0 : PA) (a1 : PA) (a20 : Int) (a21 : Int) (a3 : Option PA) (a4 : Int) {h : H} {R : Value → H → Prop} (hw : wp Try.prog (M_tg_hintsearch a0 a1 a20 a21 a3 a4) (Ret R) h) : HC Try.prog fn_tg_hintsearch (List.map AV.val [.c (.addr a0), .c (.addr a1), .agg [.int .i64 a20, .int .i64 a21], .c (.ptr a3), .c (.int .i64 a4)]).toArray h R :=
  den_calls hmix Try.func60 (of_decide_eq_true rfl) (by rw [den_tg_hintsearch]; exact hw)
def M_tg_init (a0 : PA) (a1 : Int) : M :=
 .load (a0.fst, a0.snd + 10) (.int .i64) fun i0 =>
 .ite (i0 != 0)
 (.done .ret [])
 (.call fn_degreeToMinMax [.c (.int .i64 (a1))] true [.c (.int .i64), .c (.int .i64)] fun r1 =>
 .store (a0.fst, a0.snd + 10) (.int .i64 (r1.fst)) <|
 .store (a0.fst, a0.snd + 9) (.int .i64 (r1.snd.fst)) <|
 .load (a0.fst, a0.snd + 7) (.int .i64) fun i2 =>
 .load (a0.fst, a0.snd + 8) (.int .i64) fun i3 =>
 .guard (noMeths Try.prog (Value.iface ty_impl_Item (AV.agg [(Sh1.int IntKind.i64).mk i2, (Sh1.int IntKind.i64).mk i3]).val)) <|
 .store (a0.fst, a0.snd + 4) (.ff) <|
 .load (a0.fst, a0.snd + 4) (.bool) fun b4 =>
 .bind none (.ite (!b4)
 (.load (a0.fst, a0.snd + 7) (.int .i64) fun i5 =>
 .load (a0.fst, a0.snd + 8) (.int .i64) fun i6 =>
 .guard (noMeths Try.prog (Value.iface ty_impl_Item (AV.agg [(Sh1.int IntKind.i64).mk i5, (Sh1.int IntKind.i64).mk i6]).val)) <|
 .store (a0.fst, a0.snd + 5) (.ff) <|
 .done .normal [])
 (.done .normal [])) [] fun x7 =>
 .done .ret [])
theorem den_tg_init (a0 : PA) (a1 : Int) : denFn Try.prog Try.f45 [.c (.addr a0), .c (.int .i64 a1)] = M_tg_init a0 a1 := by kernel_rfl
theorem hc_tg_init (a0 : PA) (a1 : Int) {h : H} {R : Value → H → Prop} (hw : wp Try.prog (M_tg_init a0 a1) (Ret R) h) : HC Try.prog fn_tg_init (List.map AV.val [.c (.addr a0), .c (.int .i64 a1)]).toArray h R :=
  den_calls hmix Try.func45 (of_decide_eq_true rfl) (by rw [den_tg_init]; exact hw)
def M_tg_isoLoad (a0 : PA) (a1 : PA) (a2 : Bool) : M :=
 .bind none (.ite (a2)
 (.load a1 (.ptr) fun q0 =>
 .nonnil (q0) fun p1 =>
 .load (p1.fst, p1.snd) (.int .u64) fun i2 =>
 .load (a0.fst, a0.snd) (.int .u64) fun i3 =>
 .done .normal [.c (.bool (i2 != i3))])
 (.done .normal [.c (.ff)])) [.c (.bool)] fun x4 =>
 .bind none (.ite (x4.fst)
 (.load a1 (.ptr) fun q5 =>
 .call fn_tg_copy [.c (.addr a0), .c (.ptr (q5))] false [.c (.ptr)] fun r6 =>
 .store a1 (.ptr (r6.fst)) <|
 .done .normal [])
 (.done .normal [])) [] fun x7 =>
 .load a1 (.ptr) fun q8 =>
 .done .ret [.c (.ptr (q8))]
theorem den_tg_isoLoad (a0 : PA) (a1 : PA) (a2 : Bool) : denFn Try.prog Try.f38 [.c (.addr a0), .c (.addr a1), .c (.bool a2)] = M_tg_isoLoad a0 a1 a2 := by kernel_rfl
theorem hc_tg_isoLoad (a0 : PA) (a1 : PA) (a2 : Bool) {h : H} {R : Value → H → Prop} (hw : wp Try.prog (M_tg_isoLoad a0 a1 a2) (Ret R) h) : HC Try.prog fn_tg_isoLoad (List.map AV.val [.c (.addr a0), .c (.addr a1), .c (.bool a2)]).toArray h R :=
  den_calls hmix Try.func38 (of_decide_eq_true rfl) (by rw [den_tg_isoLoad]; exact hw)
def M_tg_lock (a0 : PA) (a1 : Bool) : M :=
 .done .ret [.c (.ff)]
theorem den_tg_lock (a0 : PA) (a1 : Bool) : denFn Try.prog Try.f36 [.c (.addr a0), .c (.bool a1)] = M_tg_lock a0 a1 := by kernel_rfl
theorem hc_tg_lock (a0 : PA) (a1 : Bool) {h : H} {R : Value → H → Prop} (hw : wp Try.prog (M_tg_lock a0 a1) (Ret R) h) : HC Try.prog fn_tg_lock (List.map AV.val [.c (.addr a0), .c (.bool a1)]).toArray h R :=
  den_calls hmix Try.func36 (of_decide_eq_true rfl) (by rw [den_tg_lock]; exact hw)
def M_tg_newNode (a0 : PA) (a1 : Bool) : M :=
 .load (a0.fst, a0.snd) (.int .u64) fun i0 =>
 .alloc ty_btree_node_pub_greenwood_impl_Item [.int .u64 (i0), .int .i64 (0), .sl none (0) (0), .ptr none] fun n1 =>
 .bind none (.ite (!a1)
 (.alloc ty_sl_p_btree_node_pub_greenwood_impl_Item [.sl none (0) (0)] fun n2 =>
 .store (n1, 3) (.addr (n2, 0)) <|
 .done .normal [])
 (.done .normal [])) [] fun x3 =>
 .done .ret [.c (.addr (n1, 0))]
theorem den_tg_newNode (a0 : PA) (a1 : Bool) : denFn Try.prog Try.f69 [.c (.addr a0), .c (.bool a1)] = M_tg_newNode a0 a1 := by kernel_rfl
theorem hc_tg_newNode (a0 : PA) (a1 : Bool) {h : H} {R : Value → H → Prop} (hw : wp Try.prog (M_tg_newNode a0 a1) (Ret R) h) : HC Try.prog fn_tg_newNode (List.map AV.val [.c (.addr a0), .c (.bool a1)]).toArray h R :=
  den_calls hmix Try.func69 (of_decide_eq_true rfl) (by rw [den_tg_newNode]; exact hw)
def M_tg_nodeSet (a0 : PA) (a1 : PA) (a20 : Int) (a21 : Int) (a3 : Option PA) (a4 : Int) : M :=
 .alloc ty_impl_Item [.int .i64 (a20), .int .i64 (a21)] fun n0 =>
 .alloc ty_impl_Item [.int .i64 (0), .int .i64 (0)] fun n1 =>
 .load a1 (.ptr) fun q2 =>
 .nonnil (q2) fun p3 =>
 .load (p3.fst, p3.snd) (.int .u64) fun i4 =>
 .load (a0.fst, a0.snd) (.int .u64) fun i5 =>
 .bind none (.ite (i4 != i5)
 (.load a1 (.ptr) fun q6 =>
 .call fn_tg_copy [.c (.addr a0), .c (.ptr (q6))] false [.c (.ptr)] fun r7 =>
 .store a1 (.ptr (r7.fst)) <|
 .done .normal [])
 (.done .normal [])) [] fun x8 =>
 .load a1 (.ptr) fun q9 =>
 .alloc ty_p_btree_node_pub_greenwood_impl_Item [.ptr none] fun n10 =>
 .store (n10, 0) (.ptr (q9)) <|
 .bind none (.ite (a3.isNone)
 (.load (n10, 0) (.ptr) fun q11 =>
 .load (n0, 0) (.int .i64) fun i12 =>
 .load (n0, 1) (.int .i64) fun i13 =>
 .call fn_tg_bsearch [.c (.addr a0), .c (.ptr (q11)), .agg [.int .i64 (i12), .int .i64 (i13)]] true [.c (.int .i64), .c (.bool)] fun r14 =>
 .done .normal [.c (.bool (r14.snd.fst)), .c (.int .i64 (r14.fst))])
 (.load (n10, 0) (.ptr) fun q15 =>
 .load (n0, 0) (.int .i64) fun i16 =>
 .load (n0, 1) (.int .i64) fun i17 =>
 .call fn_tg_hintsearch [.c (.addr a0), .c (.ptr (q15)), .agg [.int .i64 (i16), .int .i64 (i17)], .c (.ptr (a3)), .c (.int .i64 (a4))] true [.c (.int .i64), .c (.bool)] fun r18 =>
 .done .normal [.c (.bool (r18.snd.fst)), .c (.int .i64 (r18.fst))])) [.c (.bool), .c (.int .i64)] fun x19 =>
 .ite (x19.fst)
 (.load (n10, 0) (.ptr) fun q20 =>
 .nonnil (q20) fun p21 =>
 .load (p21.fst, p21.snd + 2) (.sl) fun s22 =>
 .nonnil (s22.fst) fun p23 =>
 .guard (((0 : Int) ≤ x19.snd.fst) ∧ ((x19.snd.fst : Int) < (↑s22.snd.fst : Int))) <|
 .load (p23.fst, p23.snd + mulN (Int.toNat x19.snd.fst) 2) (.int .i64) fun i24 =>
 .load (p23.fst, p23.snd + mulN (Int.toNat x19.snd.fst) 2 + 1) (.int .i64) fun i25 =>
 .store (n1, 0) (.int .i64 (i24)) <|
 .store (n1, 1) (.int .i64 (i25)) <|
 .load (n10, 0) (.ptr) fun q26 =>
 .nonnil (q26) fun p27 =>
 .load (p27.fst, p27.snd + 2) (.sl) fun s28 =>
 .load (n0, 0) (.int .i64) fun i29 =>
 .load (n0, 1) (.int .i64) fun i30 =>
 .nonnil (s28.fst) fun p31 =>
 .guard (((0 : Int) ≤ x19.snd.fst) ∧ ((x19.snd.fst : Int) < (↑s28.snd.fst : Int))) <|
 .store (p31.fst, p31.snd + mulN (Int.toNat x19.snd.fst) 2) (.int .i64 (i29)) <|
 .store (p31.fst, p31.snd + mulN (Int.toNat x19.snd.fst) 2 + 1) (.int .i64 (i30)) <|
 .load (n1, 0) (.int .i64) fun i32 =>
 .load (n1, 1) (.int .i64) fun i33 =>
 .store (n1, 0) (.int .i64 (i32)) <|
 .store (n1, 1) (.int .i64 (i33)) <|
 .load (n1, 0) (.int .i64) fun i34 =>
 .load (n1, 1) (.int .i64) fun i35 =>
 .done .ret [.agg [.int .i64 (i34), .int .i64 (i35)], .c (.tt), .c (.ff)])
 (.load (n10, 0) (.ptr) fun q36 =>
 .call fn_ng_leaf [.c (.ptr (q36))] false [.c (.bool)] fun r37 =>
 .ite (r37.fst)
 (.load (n10, 0) (.ptr) fun q38 =>
 .nonnil (q38) fun p39 =>
 .load (p39.fst, p39.snd + 2) (.sl) fun s40 =>
 .load (a0.fst, a0.snd + 9) (.int .i64) fun i41 =>
 .ite ((↑s40.snd.fst : Int) == i41)
 (.load (a0.fst, a0.snd + 7) (.int .i64) fun i42 =>
 .load (a0.fst, a0.snd + 8) (.int .i64) fun i43 =>
 .store (n1, 0) (.int .i64 (i42)) <|
 .store (n1, 1) (.int .i64 (i43)) <|
 .load (n1, 0) (.int .i64) fun i44 =>
 .load (n1, 1) (.int .i64) fun i45 =>
 .done .ret [.agg [.int .i64 (i44), .int .i64 (i45)], .c (.ff), .c (.tt)])
 (.load (n10, 0) (.ptr) fun q46 =>
 .load (n10, 0) (.ptr) fun q47 =>
 .nonnil (q47) fun p48 =>
 .load (p48.fst, p48.snd + 2) (.sl) fun s49 =>
 .load (a0.fst, a0.snd + 7) (.int .i64) fun i50 =>
 .load (a0.fst, a0.snd + 8) (.int .i64) fun i51 =>
 .alloc ty_impl_Item [.int .i64 (i50), .int .i64 (i51)] fun n52 =>
 .held (p48.fst, p48.snd + 2) (.sl (s49.fst) (s49.snd.fst) (s49.snd.snd)) <|
 .held (n10, 0) (.ptr (q47)) <|
 .held (n10, 0) (.ptr (q46)) <|
 .append ty_impl_Item 2 16 [.int .i64 (0), .int .i64 (0)] ((s49.fst), s49.snd.fst, s49.snd.snd) ((some (n52, 0)), 1, 1) fun s53 =>
 .held (n10, 0) (.ptr (q46)) <|
 .nonnil (q46) fun p54 =>
 .store (p54.fst, p54.snd + 2) (.sl (s53.fst) (s53.snd.fst) (s53.snd.snd)) <|
 .load (n10, 0) (.ptr) fun q55 =>
 .nonnil (q55) fun p56 =>
 .load (p56.fst, p56.snd + 2) (.sl) fun s57 =>
 .guard (InK IntKind.i64 (x19.snd.fst + 1)) <|
 .guard (((0 : Int) ≤ x19.snd.fst + 1) ∧ ((x19.snd.fst + 1 : Int) ≤ (↑s57.snd.fst : Int))) <|
 .load (n10, 0) (.ptr) fun q58 =>
 .nonnil (q58) fun p59 =>
 .load (p59.fst, p59.snd + 2) (.sl) fun s60 =>
 .guard (((0 : Int) ≤ x19.snd.fst) ∧ ((x19.snd.fst : Int) ≤ (↑s60.snd.fst : Int))) <|
 .copy 2 ((slBase s57.fst s57.snd.snd (x19.snd.fst + 1).toNat 2), s57.snd.fst - (x19.snd.fst + 1).toNat, s57.snd.snd - (x19.snd.fst + 1).toNat) ((slBase s60.fst s60.snd.snd (Int.toNat x19.snd.fst) 2), s60.snd.fst - Int.toNat x19.snd.fst, s60.snd.snd - Int.toNat x19.snd.fst) fun m61 =>
 .load (n10, 0) (.ptr) fun q62 =>
 .nonnil (q62) fun p63 =>
 .load (p63.fst, p63.snd + 2) (.sl) fun s64 =>
 .load (n0, 0) (.int .i64) fun i65 =>
 .load (n0, 1) (.int .i64) fun i66 =>
 .nonnil (s64.fst) fun p67 =>
 .guard (((0 : Int) ≤ x19.snd.fst) ∧ ((x19.snd.fst : Int) < (↑s64.snd.fst : Int))) <|
 .store (p67.fst, p67.snd + mulN (Int.toNat x19.snd.fst) 2) (.int .i64 (i65)) <|
 .store (p67.fst, p67.snd + mulN (Int.toNat x19.snd.fst) 2 + 1) (.int .i64 (i66)) <|
 .load (n10, 0) (.ptr) fun q68 =>
 .nonnil (q68) fun p69 =>
 .load (p69.fst, p69.snd + 1) (.int .i64) fun i70 =>
 .guard (InK IntKind.i64 (i70 + 1)) <|
 .nonnil (q68) fun p71 =>
 .store (p71.fst, p71.snd + 1) (.int .i64 (i70 + 1)) <|
 .load (a0.fst, a0.snd + 7) (.int .i64) fun i72 =>
 .load (a0.fst, a0.snd + 8) (.int .i64) fun i73 =>
 .store (n1, 0) (.int .i64 (i72)) <|
 .store (n1, 1) (.int .i64 (i73)) <|
 .load (n1, 0) (.int .i64) fun i74 =>
 .load (n1, 1) (.int .i64) fun i75 =>
 .done .ret [.agg [.int .i64 (i74), .int .i64 (i75)], .c (.ff), .c (.ff)]))
 (.load (n10, 0) (.ptr) fun q76 =>
 .nonnil (q76) fun p77 =>
 .load (p77.fst, p77.snd + 3) (.ptr) fun q78 =>
 .nonnil (q78) fun p79 =>
 .load p79 (.sl) fun s80 =>
 .nonnil (s80.fst) fun p81 =>
 .guard (((0 : Int) ≤ x19.snd.fst) ∧ ((x19.snd.fst : Int) < (↑s80.snd.fst : Int))) <|
 .load (n0, 0) (.int .i64) fun i82 =>
 .load (n0, 1) (.int .i64) fun i83 =>
 .guard (InK IntKind.i64 (a4 + 1)) <|
 .call fn_tg_nodeSet [.c (.addr a0), .c (.addr (p81.fst, p81.snd + Int.toNat x19.snd.fst)), .agg [.int .i64 (i82), .int .i64 (i83)], .c (.ptr (a3)), .c (.int .i64 (a4 + 1))] true [.agg [.int .i64, .int .i64], .c (.bool), .c (.bool)] fun r84 =>
 .store (n1, 0) (.int .i64 (r84.fst.fst)) <|
 .store (n1, 1) (.int .i64 (r84.fst.snd.fst)) <|
 .ite (r84.snd.snd.fst)
 (.load (n10, 0) (.ptr) fun q85 =>
 .nonnil (q85) fun p86 =>
 .load (p86.fst, p86.snd + 2) (.sl) fun s87 =>
 .load (a0.fst, a0.snd + 9) (.int .i64) fun i88 =>
 .ite ((↑s87.snd.fst : Int) == i88)
 (.load (a0.fst, a0.snd + 7) (.int .i64) fun i89 =>
 .load (a0.fst, a0.snd + 8) (.int .i64) fun i90 =>
 .store (n1, 0) (.int .i64 (i89)) <|
 .store (n1, 1) (.int .i64 (i90)) <|
 .load (n1, 0) (.int .i64) fun i91 =>
 .load (n1, 1) (.int .i64) fun i92 =>
 .done .ret [.agg [.int .i64 (i91), .int .i64 (i92)], .c (.ff), .c (.tt)])
 (.load (n10, 0) (.ptr) fun q93 =>
 .nonnil (q93) fun p94 =>
 .load (p94.fst, p94.snd + 3) (.ptr) fun q95 =>
 .nonnil (q95) fun p96 =>
 .load p96 (.sl) fun s97 =>
 .nonnil (s97.fst) fun p98 =>
 .guard (((0 : Int) ≤ x19.snd.fst) ∧ ((x19.snd.fst : Int) < (↑s97.snd.fst : Int))) <|
 .load (p98.fst, p98.snd + Int.toNat x19.snd.fst) (.ptr) fun q99 =>
 .call fn_tg_nodeSplit [.c (.addr a0), .c (.ptr (q99))] true [.c (.ptr), .agg [.int .i64, .int .i64]] fun r100 =>
 .alloc ty_impl_Item [.int .i64 (0), .int .i64 (0)] fun n101 =>
 .store (n101, 0) (.int .i64 (r100.snd.fst.fst)) <|
 .store (n101, 1) (.int .i64 (r100.snd.fst.snd.fst)) <|
 .load (n10, 0) (.ptr) fun q102 =>
 .nonnil (q102) fun p103 =>
 .load (p103.fst, p103.snd + 3) (.ptr) fun q104 =>
 .load (n10, 0) (.ptr) fun q105 =>
 .nonnil (q105) fun p106 =>
 .load (p106.fst, p106.snd + 3) (.ptr) fun q107 =>
 .nonnil (q107) fun p108 =>
 .load p108 (.sl) fun s109 =>
 .alloc ty_p_btree_node_pub_greenwood_impl_Item [.ptr none] fun n110 =>
 .held p108 (.sl (s109.fst) (s109.snd.fst) (s109.snd.snd)) <|
 .held (p106.fst, p106.snd + 3) (.ptr (q107)) <|
 .held (n10, 0) (.ptr (q105)) <|
 .held (p103.fst, p103.snd + 3) (.ptr (q104)) <|
 .held (n10, 0) (.ptr (q102)) <|
 .append ty_p_btree_node_pub_greenwood_impl_Item 1 8 [.ptr none] ((s109.fst), s109.snd.fst, s109.snd.snd) ((some (n110, 0)), 1, 1) fun s111 =>
 .held (p103.fst, p103.snd + 3) (.ptr (q104)) <|
 .held (n10, 0) (.ptr (q102)) <|
 .nonnil (q104) fun p112 =>
 .store p112 (.sl (s111.fst) (s111.snd.fst) (s111.snd.snd)) <|
 .load (n10, 0) (.ptr) fun q113 =>
 .nonnil (q113) fun p114 =>
 .load (p114.fst, p114.snd + 3) (.ptr) fun q115 =>
 .nonnil (q115) fun p116 =>
 .load p116 (.sl) fun s117 =>
 .guard (InK IntKind.i64 (x19.snd.fst + 1)) <|
 .guard (((0 : Int) ≤ x19.snd.fst + 1) ∧ ((x19.snd.fst + 1 : Int) ≤ (↑s117.snd.fst : Int))) <|
 .load (n10, 0) (.ptr) fun q118 =>
 .nonnil (q118) fun p119 =>
 .load (p119.fst, p119.snd + 3) (.ptr) fun q120 =>
 .nonnil (q120) fun p121 =>
 .load p121 (.sl) fun s122 =>
 .guard (((0 : Int) ≤ x19.snd.fst) ∧ ((x19.snd.fst : Int) ≤ (↑s122.snd.fst : Int))) <|
 .copy 1 ((slBase s117.fst s117.snd.snd (x19.snd.fst + 1).toNat 1), s117.snd.fst - (x19.snd.fst + 1).toNat, s117.snd.snd - (x19.snd.fst + 1).toNat) ((slBase s122.fst s122.snd.snd (Int.toNat x19.snd.fst) 1), s122.snd.fst - Int.toNat x19.snd.fst, s122.snd.snd - Int.toNat x19.snd.fst) fun m123 =>
 .load (n10, 0) (.ptr) fun q124 =>
 .nonnil (q124) fun p125 =>
 .load (p125.fst, p125.snd + 3) (.ptr) fun q126 =>
 .nonnil (q126) fun p127 =>
 .load p127 (.sl) fun s128 =>
 .guard (InK IntKind.i64 (x19.snd.fst + 1)) <|
 .nonnil (s128.fst) fun p129 =>
 .guard (((0 : Int) ≤ x19.snd.fst + 1) ∧ ((x19.snd.fst + 1 : Int) < (↑s128.snd.fst : Int))) <|
 .store (p129.fst, p129.snd + (x19.snd.fst + 1).toNat) (.ptr (r100.fst)) <|
 .load (n10, 0) (.ptr) fun q130 =>
 .load (n10, 0) (.ptr) fun q131 =>
 .nonnil (q131) fun p132 =>
 .load (p132.fst, p132.snd + 2) (.sl) fun s133 =>
 .load (a0.fst, a0.snd + 7) (.int .i64) fun i134 =>
 .load (a0.fst, a0.snd + 8) (.int .i64) fun i135 =>
 .alloc ty_impl_Item [.int .i64 (i134), .int .i64 (i135)] fun n136 =>
 .held (p132.fst, p132.snd + 2) (.sl (s133.fst) (s133.snd.fst) (s133.snd.snd)) <|
 .held (n10, 0) (.ptr (q131)) <|
 .held (n10, 0) (.ptr (q130)) <|
 .append ty_impl_Item 2 16 [.int .i64 (0), .int .i64 (0)] ((s133.fst), s133.snd.fst, s133.snd.snd) ((some (n136, 0)), 1, 1) fun s137 =>
 .held (n10, 0) (.ptr (q130)) <|
 .nonnil (q130) fun p138 =>
 .store (p138.fst, p138.snd + 2) (.sl (s137.fst) (s137.snd.fst) (s137.snd.snd)) <|
 .load (n10, 0) (.ptr) fun q139 =>
 .nonnil (q139) fun p140 =>
 .load (p140.fst, p140.snd + 2) (.sl) fun s141 =>
 .guard (InK IntKind.i64 (x19.snd.fst + 1)) <|
 .guard (((0 : Int) ≤ x19.snd.fst + 1) ∧ ((x19.snd.fst + 1 : Int) ≤ (↑s141.snd.fst : Int))) <|
 .load (n10, 0) (.ptr) fun q142 =>
 .nonnil (q142) fun p143 =>
 .load (p143.fst, p143.snd + 2) (.sl) fun s144 =>
 .guard (((0 : Int) ≤ x19.snd.fst) ∧ ((x19.snd.fst : Int) ≤ (↑s144.snd.fst : Int))) <|
 .copy 2 ((slBase s141.fst s141.snd.snd (x19.snd.fst + 1).toNat 2), s141.snd.fst - (x19.snd.fst + 1).toNat, s141.snd.snd - (x19.snd.fst + 1).toNat) ((slBase s144.fst s144.snd.snd (Int.toNat x19.snd.fst) 2), s144.snd.fst - Int.toNat x19.snd.fst, s144.snd.snd - Int.toNat x19.snd.fst) fun m145 =>
 .load (n10, 0) (.ptr) fun q146 =>
 .nonnil (q146) fun p147 =>
 .load (p147.fst, p147.snd + 2) (.sl) fun s148 =>
 .load (n101, 0) (.int .i64) fun i149 =>
 .load (n101, 1) (.int .i64) fun i150 =>
 .nonnil (s148.fst) fun p151 =>
 .guard (((0 : Int) ≤ x19.snd.fst) ∧ ((x19.snd.fst : Int) < (↑s148.snd.fst : Int))) <|
 .store (p151.fst, p151.snd + mulN (Int.toNat x19.snd.fst) 2) (.int .i64 (i149)) <|
 .store (p151.fst, p151.snd + mulN (Int.toNat x19.snd.fst) 2 + 1) (.int .i64 (i150)) <|
 .load (n0, 0) (.int .i64) fun i152 =>
 .load (n0, 1) (.int .i64) fun i153 =>
 .call fn_tg_nodeSet [.c (.addr a0), .c (.addr (n10, 0)), .agg [.int .i64 (i152), .int .i64 (i153)], .c (.ptr (a3)), .c (.int .i64 (a4))] true [.agg [.int .i64, .int .i64], .c (.bool), .c (.bool)] fun r154 =>
 .store (n1, 0) (.int .i64 (r154.fst.fst)) <|
 .store (n1, 1) (.int .i64 (r154.fst.snd.fst)) <|
 .load (n1, 0) (.int .i64) fun i155 =>
 .load (n1, 1) (.int .i64) fun i156 =>
 .done .ret [.agg [.int .i64 (i155), .int .i64 (i156)], .c (.bool (r154.snd.fst)), .c (.bool (r154.snd.snd.fst))]))
 (.bind none (.ite (!r84.snd.fst)
 (.load (n10, 0) (.ptr) fun q157 =>
 .nonnil (q157) fun p158 =>
 .load (p158.fst, p158.snd + 1) (.int .i64) fun i159 =>
 .guard (InK IntKind.i64 (i159 + 1)) <|
 .nonnil (q157) fun p160 =>
 .store (p160.fst, p160.snd + 1) (.int .i64 (i159 + 1)) <|
 .done .normal [])
 (.done .normal [])) [] fun x161 =>
 .load (n1, 0) (.int .i64) fun i162 =>
 .load (n1, 1) (.int .i64) fun i163 =>
 .store (n1, 0) (.int .i64 (i162)) <|
 .store (n1, 1) (.int .i64 (i163)) <|
 .load (n1, 0) (.int .i64) fun i164 =>
 .load (n1, 1) (.int .i64) fun i165 =>
 .done .ret [.agg [.int .i64 (i164), .int .i64 (i165)], .c (.bool (r84.snd.fst)), .c (.ff)])))
theorem den_tg_nodeSet (a0 : PA) (a1 : PA) (a20 : Int) (a21 : Int) (a3 : Option PA) (a4 : Int) : denFn Try.prog Try.f70 [.c (.addr a0), .c (.addr a1), .agg [.int .i64 a20, .int .i64 a21], .c (.ptr a3), .c (.int .i64 a4)] = M_tg_nodeSet a0 a1 a20 a21 a3 a4 := by kernel_rfl
theorem hc_tg_nodeSet (a0 : PA) (a1 : PA) (a20 : Int) (a21 : Int) (a3 : Option PA) (a4 : Int) {h : H} {R : Value → H → Prop} (hw : wp Try.prog (M_tg_nodeSet a0 a1 a20 a21 a3 a4) (Ret R) h) : HC Try.prog fn_tg_nodeSet (List.map AV.val [.c (.addr a0), .c (.addr a1), .agg [.int .i64 a20, .int .i64 a21], .c (.ptr a3), .c (.int .i64 a4)]).toArray h R :=
  den_calls hmix Try.func70 (of_decide_eq_true rfl) (by rw [den_tg_nodeSet]; exact hw)
def M_tg_nodeSplit (a0 : PA) (a1 : PA) : M :=
 .alloc ty_impl_Item [.int .i64 (0), .int .i64 (0)] fun n0 =>
 .load (a0.fst, a0.snd + 9) (.int .i64) fun i1 =>
 .guard (((2 : Int) ≠ 0) ∧ (InK IntKind.i64 (Int.tdiv i1 2))) <|
 .load (a1.fst, a1.snd + 2) (.sl) fun s2 =>
 .nonnil (s2.fst) fun p3 =>
 .guard (((0 : Int) ≤ Int.tdiv i1 2) ∧ ((Int.tdiv i1 2 : Int) < (↑s2.snd.fst : Int))) <|
 .load (p3.fst, p3.snd + mulN (Int.tdiv i1 2).toNat 2) (.int .i64) fun i4 =>
 .load (p3.fst, p3.snd + mulN (Int.tdiv i1 2).toNat 2 + 1) (.int .i64) fun i5 =>
 .store (n0, 0) (.int .i64 (i4)) <|
 .store (n0, 1) (.int .i64 (i5)) <|
 .call fn_ng_leaf [.c (.addr a1)] false [.c (.bool)] fun r6 =>
 .call fn_tg_newNode [.c (.addr a0), .c (.bool (r6.fst))] false [.c (.ptr)] fun r7 =>
 .load (a1.fst, a1.snd + 2) (.sl) fun s8 =>
 .guard (InK IntKind.i64 (Int.tdiv i1 2 + 1)) <|
 .guard (((0 : Int) ≤ Int.tdiv i1 2 + 1) ∧ ((Int.tdiv i1 2 + 1 : Int) ≤ (↑s8.snd.fst : Int))) <|
 .nonnil (r7.fst) fun p9 =>
 .store (p9.fst, p9.snd + 2) (.sl (slBase s8.fst s8.snd.snd (Int.tdiv i1 2 + 1).toNat 2) (s8.snd.fst - (Int.tdiv i1 2 + 1).toNat) (s8.snd.snd - (Int.tdiv i1 2 + 1).toNat)) <|
 .call fn_ng_leaf [.c (.addr a1)] false [.c (.bool)] fun r10 =>
 .bind none (.ite (!r10.fst)
 (.nonnil (r7.fst) fun p11 =>
 .load (p11.fst, p11.snd + 3) (.ptr) fun q12 =>
 .load (a1.fst, a1.snd + 3) (.ptr) fun q13 =>
 .nonnil (q13) fun p14 =>
 .load p14 (.sl) fun s15 =>
 .guard (InK IntKind.i64 (Int.tdiv i1 2 + 1)) <|
 .guard (((0 : Int) ≤ Int.tdiv i1 2 + 1) ∧ ((Int.tdiv i1 2 + 1 : Int) ≤ (↑s15.snd.fst : Int))) <|
 .nonnil (q12) fun p16 =>
 .store p16 (.sl (slBase s15.fst s15.snd.snd (Int.tdiv i1 2 + 1).toNat 1) (s15.snd.fst - (Int.tdiv i1 2 + 1).toNat) (s15.snd.snd - (Int.tdiv i1 2 + 1).toNat)) <|
 .done .normal [])
 (.done .normal [])) [] fun x17 =>
 .call fn_ng_updateCount [.c (.ptr (r7.fst))] true [] fun r18 =>
 .load (a1.fst, a1.snd + 2) (.sl) fun s19 =>
 .load (a0.fst, a0.snd + 7) (.int .i64) fun i20 =>
 .load (a0.fst, a0.snd + 8) (.int .i64) fun i21 =>
 .nonnil (s19.fst) fun p22 =>
 .guard (((0 : Int) ≤ Int.tdiv i1 2) ∧ ((Int.tdiv i1 2 : Int) < (↑s19.snd.fst : Int))) <|
 .store (p22.fst, p22.snd + mulN (Int.tdiv i1 2).toNat 2) (.int .i64 (i20)) <|
 .store (p22.fst, p22.snd + mulN (Int.tdiv i1 2).toNat 2 + 1) (.int .i64 (i21)) <|
 .load (a1.fst, a1.snd + 2) (.sl) fun s23 =>
 .guard ((((0 : Int) ≤ Int.tdiv i1 2) ∧ ((Int.tdiv i1 2 : Int) ≤ (↑s23.snd.snd : Int))) ∧ (((0 : Int) ≤ Int.tdiv i1 2) ∧ ((Int.tdiv i1 2 : Int) ≤ (↑(Int.tdiv i1 2).toNat : Int)))) <|
 .store (a1.fst, a1.snd + 2) (.sl (slBase s23.fst (Int.tdiv i1 2).toNat 0 2) ((Int.tdiv i1 2).toNat - 0) ((Int.tdiv i1 2).toNat - 0)) <|
 .call fn_ng_leaf [.c (.addr a1)] false [.c (.bool)] fun r24 =>
 .bind none (.ite (!r24.fst)
 (.load (a1.fst, a1.snd + 3) (.ptr) fun q25 =>
 .load (a1.fst, a1.snd + 3) (.ptr) fun q26 =>
 .nonnil (q26) fun p27 =>
 .load p27 (.sl) fun s28 =>
 .guard (InK IntKind.i64 (Int.tdiv i1 2 + 1)) <|
 .guard (InK IntKind.i64 (Int.tdiv i1 2 + 1)) <|
 .guard ((((0 : Int) ≤ Int.tdiv i1 2 + 1) ∧ ((Int.tdiv i1 2 + 1 : Int) ≤ (↑s28.snd.snd : Int))) ∧ (((0 : Int) ≤ Int.tdiv i1 2 + 1) ∧ ((Int.tdiv i1 2 + 1 : Int) ≤ (↑(Int.tdiv i1 2 + 1).toNat : Int)))) <|
 .nonnil (q25) fun p29 =>
 .store p29 (.sl (slBase s28.fst (Int.tdiv i1 2 + 1).toNat 0 1) ((Int.tdiv i1 2 + 1).toNat - 0) ((Int.tdiv i1 2 + 1).toNat - 0)) <|
 .done .normal [])
 (.done .normal [])) [] fun x30 =>
 .call fn_ng_updateCount [.c (.addr a1)] true [] fun r31 =>
 .load (n0, 0) (.int .i64) fun i32 =>
 .load (n0, 1) (.int .i64) fun i33 =>
 .store (n0, 0) (.int .i64 (i32)) <|
 .store (n0, 1) (.int .i64 (i33)) <|
 .load (n0, 0) (.int .i64) fun i34 =>
 .load (n0, 1) (.int .i64) fun i35 =>
 .done .ret [.c (.ptr (r7.fst)), .agg [.int .i64 (i34), .int .i64 (i35)]]
theorem den_tg_nodeSplit (a0 : PA) (a1 : PA) : denFn Try.prog Try.f71 [.c (.addr a0), .c (.addr a1)] = M_tg_nodeSplit a0 a1 := by kernel_rfl
theorem hc_tg_nodeSplit (a0 : PA) (a1 : PA) {h : H} {R : Value → H → Prop} (hw : wp Try.prog (M_tg_nodeSplit a0 a1) (Ret R) h) : HC Try.prog fn_tg_nodeSplit (List.map AV.val [.c (.addr a0), .c (.addr a1)]).toArray h R :=
  den_calls hmix Try.func71 (of_decide_eq_true rfl) (by rw [den_tg_nodeSplit]; exact hw)
def M_tg_setHint (a0 : PA) (a10 : Int) (a11 : Int) (a2 : Option PA) : M :=
 .alloc ty_impl_Item [.int .i64 (a10), .int .i64 (a11)] fun n0 =>
 .alloc ty_impl_Item [.int .i64 (0), .int .i64 (0)] fun n1 =>
 .load (a0.fst, a0.snd + 2) (.ptr) fun q2 =>
 .ite (Option.isNone q2)
 (.call fn_tg_init [.c (.addr a0), .c (.int .i64 (0))] true [] fun r3 =>
 .call fn_tg_newNode [.c (.addr a0), .c (.tt)] false [.c (.ptr)] fun r4 =>
 .store (a0.fst, a0.snd + 2) (.ptr (r4.fst)) <|
 .bind none (.load (a0.fst, a0.snd + 2) (.ptr) fun q5 =>
 .load (n0, 0) (.int .i64) fun i6 =>
 .load (n0, 1) (.int .i64) fun i7 =>
 .both
 (.alloc ty_impl_Item [] fun n8 =>
 .held (n0, 0) (.int .i64 (i6)) <|
 .held (n0, 1) (.int .i64 (i7)) <|
 .held (a0.fst, a0.snd + 2) (.ptr (q5)) <|
 .alloc ty_impl_Item [.int .i64 (i6), .int .i64 (i7)] fun n9 =>
 .held (a0.fst, a0.snd + 2) (.ptr (q5)) <|
 .append ty_impl_Item 2 16 [.int .i64 (0), .int .i64 (0)] ((some (n8, 0)), 0, 0) ((some (n9, 0)), 1, 1) fun s10 =>
 .held (a0.fst, a0.snd + 2) (.ptr (q5)) <|
 .nonnil (q5) fun p11 =>
 .store (p11.fst, p11.snd + 2) (.sl (s10.fst) (s10.snd.fst) (s10.snd.snd)) <|
 .done .normal [])
 (.alloc ty_impl_Item [.int .i64 (i6), .int .i64 (i7)] fun n12 =>
 .held (a0.fst, a0.snd + 2) (.ptr (q5)) <|
 .alloc ty_impl_Item [] fun n13 =>
 .held (a0.fst, a0.snd + 2) (.ptr (q5)) <|
 .append ty_impl_Item 2 16 [.int .i64 (0), .int .i64 (0)] ((some (n13, 0)), 0, 0) ((some (n12, 0)), 1, 1) fun s14 =>
 .held (a0.fst, a0.snd + 2) (.ptr (q5)) <|
 .nonnil (q5) fun p15 =>
 .store (p15.fst, p15.snd + 2) (.sl (s14.fst) (s14.snd.fst) (s14.snd.snd)) <|
 .done .normal [])) [] fun x16 =>
 .load (a0.fst, a0.snd + 2) (.ptr) fun q17 =>
 .nonnil (q17) fun p18 =>
 .store (p18.fst, p18.snd + 1) (.int .i64 (1)) <|
 .store (a0.fst, a0.snd + 3) (.int .i64 (1)) <|
 .load (a0.fst, a0.snd + 7) (.int .i64) fun i19 =>
 .load (a0.fst, a0.snd + 8) (.int .i64) fun i20 =>
 .store (n1, 0) (.int .i64 (i19)) <|
 .store (n1, 1) (.int .i64 (i20)) <|
 .load (n1, 0) (.int .i64) fun i21 =>
 .load (n1, 1) (.int .i64) fun i22 =>
 .done .ret [.agg [.int .i64 (i21), .int .i64 (i22)], .c (.ff)])
 (.load (n0, 0) (.int .i64) fun i23 =>
 .load (n0, 1) (.int .i64) fun i24 =>
 .call fn_tg_nodeSet [.c (.addr a0), .c (.addr (a0.fst, a0.snd + 2)), .agg [.int .i64 (i23), .int .i64 (i24)], .c (.ptr (a2)), .c (.int .i64 (0))] true [.agg [.int .i64, .int .i64], .c (.bool), .c (.bool)] fun r25 =>
 .store (n1, 0) (.int .i64 (r25.fst.fst)) <|
 .store (n1, 1) (.int .i64 (r25.fst.snd.fst)) <|
 .ite (r25.snd.snd.fst)
 (.call fn_tg_isoLoad [.c (.addr a0), .c (.addr (a0.fst, a0.snd + 2)), .c (.tt)] false [.c (.ptr)] fun r26 =>
 .call fn_tg_nodeSplit [.c (.addr a0), .c (.ptr (r26.fst))] true [.c (.ptr), .agg [.int .i64, .int .i64]] fun r27 =>
 .alloc ty_impl_Item [.int .i64 (0), .int .i64 (0)] fun n28 =>
 .store (n28, 0) (.int .i64 (r27.snd.fst.fst)) <|
 .store (n28, 1) (.int .i64 (r27.snd.fst.snd.fst)) <|
 .call fn_tg_newNode [.c (.addr a0), .c (.ff)] false [.c (.ptr)] fun r29 =>
 .store (a0.fst, a0.snd + 2) (.ptr (r29.fst)) <|
 .load (a0.fst, a0.snd + 2) (.ptr) fun q30 =>
 .nonnil (q30) fun p31 =>
 .load (p31.fst, p31.snd + 3) (.ptr) fun q32 =>
 .load (a0.fst, a0.snd + 9) (.int .i64) fun i33 =>
 .guard (InK IntKind.i64 (i33 + 1)) <|
 .make ty_p_btree_node_pub_greenwood_impl_Item 1 8 [.ptr none] (0) (i33 + 1) fun s34 =>
 .held (p31.fst, p31.snd + 3) (.ptr (q32)) <|
 .held (a0.fst, a0.snd + 2) (.ptr (q30)) <|
 .nonnil (q32) fun p35 =>
 .store p35 (.sl (s34.fst) (s34.snd.fst) (s34.snd.snd)) <|
 .bind none (.load (a0.fst, a0.snd + 2) (.ptr) fun q36 =>
 .nonnil (q36) fun p37 =>
 .load (p37.fst, p37.snd + 3) (.ptr) fun q38 =>
 .both
 (.alloc ty_p_btree_node_pub_greenwood_impl_Item [] fun n39 =>
 .held (p37.fst, p37.snd + 3) (.ptr (q38)) <|
 .held (a0.fst, a0.snd + 2) (.ptr (q36)) <|
 .alloc ty_p_btree_node_pub_greenwood_impl_Item [.ptr (r26.fst), .ptr (r27.fst)] fun n40 =>
 .held (p37.fst, p37.snd + 3) (.ptr (q38)) <|
 .held (a0.fst, a0.snd + 2) (.ptr (q36)) <|
 .append ty_p_btree_node_pub_greenwood_impl_Item 1 8 [.ptr none] ((some (n39, 0)), 0, 0) ((some (n40, 0)), 2, 2) fun s41 =>
 .held (p37.fst, p37.snd + 3) (.ptr (q38)) <|
 .held (a0.fst, a0.snd + 2) (.ptr (q36)) <|
 .nonnil (q38) fun p42 =>
 .store p42 (.sl (s41.fst) (s41.snd.fst) (s41.snd.snd)) <|
 .done .normal [])
 (.alloc ty_p_btree_node_pub_greenwood_impl_Item [.ptr (r26.fst), .ptr (r27.fst)] fun n43 =>
 .held (p37.fst, p37.snd + 3) (.ptr (q38)) <|
 .held (a0.fst, a0.snd + 2) (.ptr (q36)) <|
 .alloc ty_p_btree_node_pub_greenwood_impl_Item [] fun n44 =>
 .held (p37.fst, p37.snd + 3) (.ptr (q38)) <|
 .held (a0.fst, a0.snd + 2) (.ptr (q36)) <|
 .append ty_p_btree_node_pub_greenwood_impl_Item 1 8 [.ptr none] ((some (n44, 0)), 0, 0) ((some (n43, 0)), 2, 2) fun s45 =>
 .held (p37.fst, p37.snd + 3) (.ptr (q38)) <|
 .held (a0.fst, a0.snd + 2) (.ptr (q36)) <|
 .nonnil (q38) fun p46 =>
 .store p46 (.sl (s45.fst) (s45.snd.fst) (s45.snd.snd)) <|
 .done .normal [])) [] fun x47 =>
 .bind none (.load (a0.fst, a0.snd + 2) (.ptr) fun q48 =>
 .load (n28, 0) (.int .i64) fun i49 =>
 .load (n28, 1) (.int .i64) fun i50 =>
 .both
 (.alloc ty_impl_Item [] fun n51 =>
 .held (n28, 0) (.int .i64 (i49)) <|
 .held (n28, 1) (.int .i64 (i50)) <|
 .held (a0.fst, a0.snd + 2) (.ptr (q48)) <|
 .alloc ty_impl_Item [.int .i64 (i49), .int .i64 (i50)] fun n52 =>
 .held (a0.fst, a0.snd + 2) (.ptr (q48)) <|
 .append ty_impl_Item 2 16 [.int .i64 (0), .int .i64 (0)] ((some (n51, 0)), 0, 0) ((some (n52, 0)), 1, 1) fun s53 =>
 .held (a0.fst, a0.snd + 2) (.ptr (q48)) <|
 .nonnil (q48) fun p54 =>
 .store (p54.fst, p54.snd + 2) (.sl (s53.fst) (s53.snd.fst) (s53.snd.snd)) <|
 .done .normal [])
 (.alloc ty_impl_Item [.int .i64 (i49), .int .i64 (i50)] fun n55 =>
 .held (a0.fst, a0.snd + 2) (.ptr (q48)) <|
 .alloc ty_impl_Item [] fun n56 =>
 .held (a0.fst, a0.snd + 2) (.ptr (q48)) <|
 .append ty_impl_Item 2 16 [.int .i64 (0), .int .i64 (0)] ((some (n56, 0)), 0, 0) ((some (n55, 0)), 1, 1) fun s57 =>
 .held (a0.fst, a0.snd + 2) (.ptr (q48)) <|
 .nonnil (q48) fun p58 =>
 .store (p58.fst, p58.snd + 2) (.sl (s57.fst) (s57.snd.fst) (s57.snd.snd)) <|
 .done .normal [])) [] fun x59 =>
 .load (a0.fst, a0.snd + 2) (.ptr) fun q60 =>
 .call fn_ng_updateCount [.c (.ptr (q60))] true [] fun r61 =>
 .load (n0, 0) (.int .i64) fun i62 =>
 .load (n0, 1) (.int .i64) fun i63 =>
 .call fn_tg_setHint [.c (.addr a0), .agg [.int .i64 (i62), .int .i64 (i63)], .c (.ptr (a2))] true [.agg [.int .i64, .int .i64], .c (.bool)] fun r64 =>
 .store (n1, 0) (.int .i64 (r64.fst.fst)) <|
 .store (n1, 1) (.int .i64 (r64.fst.snd.fst)) <|
 .load (n1, 0) (.int .i64) fun i65 =>
 .load (n1, 1) (.int .i64) fun i66 =>
 .done .ret [.agg [.int .i64 (i65), .int .i64 (i66)], .c (.bool (r64.snd.fst))])
 (.ite (r25.snd.fst)
 (.load (n1, 0) (.int .i64) fun i67 =>
 .load (n1, 1) (.int .i64) fun i68 =>
 .store (n1, 0) (.int .i64 (i67)) <|
 .store (n1, 1) (.int .i64 (i68)) <|
 .load (n1, 0) (.int .i64) fun i69 =>
 .load (n1, 1) (.int .i64) fun i70 =>
 .done .ret [.agg [.int .i64 (i69), .int .i64 (i70)], .c (.tt)])
 (.load (a0.fst, a0.snd + 3) (.int .i64) fun i71 =>
 .guard (InK IntKind.i64 (i71 + 1)) <|
 .store (a0.fst, a0.snd + 3) (.int .i64 (i71 + 1)) <|
 .load (a0.fst, a0.snd + 7) (.int .i64) fun i72 =>
 .load (a0.fst, a0.snd + 8) (.int .i64) fun i73 =>
 .store (n1, 0) (.int .i64 (i72)) <|
 .store (n1, 1) (.int .i64 (i73)) <|
 .load (n1, 0) (.int .i64) fun i74 =>
 .load (n1, 1) (.int .i64) fun i75 =>
 .done .ret [.agg [.int .i64 (i74), .int .i64 (i75)], .c (.ff)])))
theorem den_tg_setHint (a0 : PA) (a10 : Int) (a11 : Int) (a2 : Option PA) : denFn Try.prog Try.f65 [.c (.addr a0), .agg [.int .i64 a10, .int .i64 a11], .c (.ptr a2)] = M_tg_setHint a0 a10 a11 a2 := by kernel_rfl
theorem hc_tg_setHint (a0 : PA) (a10 : Int) (a11 : Int) (a2 : Option PA) {h : H} {R : Value → H → Prop} (hw : wp Try.prog (M_tg_setHint a0 a10 a11 a2) (Ret R) h) : HC Try.prog fn_tg_setHint (List.map AV.val [.c (.addr a0), .agg [.int .i64 a10, .int .i64 a11], .c (.ptr a2)]).toArray h R :=
  den_calls hmix Try.func65 (of_decide_eq_true rfl) (by rw [den_tg_setHint]; exact hw)
end Go.Proofs.Ytegnpimlfphncaa
