/-
  Functions of the translation as typed programs, and that each is its function's reading. Written by a program of ours (gen2.py). Conditions: none.
-/
import Derived.Test.YtebiihomlhljkaaNm
namespace Go.Proofs.Ytebiihomlhljkaa
open Go
set_option maxRecDepth 100000
set_option linter.unusedVariables false

def M_tg_Ascend (a0 : PA) (a10 : Int) (a11 : Int) (a2 : Value) : M :=
  .alloc ty_impl_Item [.int .i64 (a10), .int .i64 (a11)] fun n0 =>
  .load (n0, 0) (.int .i64) fun i1 =>
  .load (n0, 1) (.int .i64) fun i2 =>
  .call fn_tg_ascend [.c (.addr a0), .agg [.int .i64 (i1), .int .i64 (i2)], .c (.raw (a2)), .c (.ff), .c (.ptr none)] true [] fun r3 =>
  .done .ret []

theorem den_tg_Ascend (a0 : PA) (a10 : Int) (a11 : Int) (a2 : Value) : denFn Try.prog Try.f153 [.c (.addr a0), .agg [.int .i64 a10, .int .i64 a11], .c (.raw a2)] = M_tg_Ascend a0 a10 a11 a2 := by kernel_rfl
theorem hc_tg_Ascend (a0 : PA) (a10 : Int) (a11 : Int) (a2 : Value) {h : H} {R : Value → H → Prop} (hw : wp Try.prog (M_tg_Ascend a0 a10 a11 a2) (Ret R) h) : HC Try.prog fn_tg_Ascend (List.map AV.val [.c (.addr a0), .agg [.int .i64 a10, .int .i64 a11], .c (.raw a2)]).toArray h R :=
  den_calls hmix Try.func153 (of_decide_eq_true rfl) (by rw [den_tg_Ascend]; exact hw)

def M_tg_AscendHint (a0 : PA) (a10 : Int) (a11 : Int) (a2 : Value) (a3 : Option PA) : M :=
  .alloc ty_impl_Item [.int .i64 (a10), .int .i64 (a11)] fun n0 =>
  .load (n0, 0) (.int .i64) fun i1 =>
  .load (n0, 1) (.int .i64) fun i2 =>
  .call fn_tg_ascend [.c (.addr a0), .agg [.int .i64 (i1), .int .i64 (i2)], .c (.raw (a2)), .c (.ff), .c (.ptr (a3))] true [] fun r3 =>
  .done .ret []

theorem den_tg_AscendHint (a0 : PA) (a10 : Int) (a11 : Int) (a2 : Value) (a3 : Option PA) : denFn Try.prog Try.f86 [.c (.addr a0), .agg [.int .i64 a10, .int .i64 a11], .c (.raw a2), .c (.ptr a3)] = M_tg_AscendHint a0 a10 a11 a2 a3 := by kernel_rfl
theorem hc_tg_AscendHint (a0 : PA) (a10 : Int) (a11 : Int) (a2 : Value) (a3 : Option PA) {h : H} {R : Value → H → Prop} (hw : wp Try.prog (M_tg_AscendHint a0 a10 a11 a2 a3) (Ret R) h) : HC Try.prog fn_tg_AscendHint (List.map AV.val [.c (.addr a0), .agg [.int .i64 a10, .int .i64 a11], .c (.raw a2), .c (.ptr a3)]).toArray h R :=
  den_calls hmix Try.func86 (of_decide_eq_true rfl) (by rw [den_tg_AscendHint]; exact hw)

def M_tg_AscendMut (a0 : PA) (a10 : Int) (a11 : Int) (a2 : Value) : M :=
  .alloc ty_impl_Item [.int .i64 (a10), .int .i64 (a11)] fun n0 =>
  .load (n0, 0) (.int .i64) fun i1 =>
  .load (n0, 1) (.int .i64) fun i2 =>
  .call fn_tg_ascend [.c (.addr a0), .agg [.int .i64 (i1), .int .i64 (i2)], .c (.raw (a2)), .c (.tt), .c (.ptr none)] true [] fun r3 =>
  .done .ret []

theorem den_tg_AscendMut (a0 : PA) (a10 : Int) (a11 : Int) (a2 : Value) : denFn Try.prog Try.f152 [.c (.addr a0), .agg [.int .i64 a10, .int .i64 a11], .c (.raw a2)] = M_tg_AscendMut a0 a10 a11 a2 := by kernel_rfl
theorem hc_tg_AscendMut (a0 : PA) (a10 : Int) (a11 : Int) (a2 : Value) {h : H} {R : Value → H → Prop} (hw : wp Try.prog (M_tg_AscendMut a0 a10 a11 a2) (Ret R) h) : HC Try.prog fn_tg_AscendMut (List.map AV.val [.c (.addr a0), .agg [.int .i64 a10, .int .i64 a11], .c (.raw a2)]).toArray h R :=
  den_calls hmix Try.func152 (of_decide_eq_true rfl) (by rw [den_tg_AscendMut]; exact hw)

def M_tg_Clear (a0 : PA) : M :=
  .call fn_tg_lock [.c (.addr a0), .c (.tt)] false [.c (.bool)] fun r0 =>
  .bind none (.ite (r0.fst)
    (.fail)
    (.done .normal [])) [] fun x1 =>
  .store (a0.fst, a0.snd + 2) (.ptr none) <|
  .store (a0.fst, a0.snd + 3) (.int .i64 (0)) <|
  .done .ret []

theorem den_tg_Clear (a0 : PA) : denFn Try.prog Try.f126 [.c (.addr a0)] = M_tg_Clear a0 := by kernel_rfl
theorem hc_tg_Clear (a0 : PA) {h : H} {R : Value → H → Prop} (hw : wp Try.prog (M_tg_Clear a0) (Ret R) h) : HC Try.prog fn_tg_Clear (List.map AV.val [.c (.addr a0)]).toArray h R :=
  den_calls hmix Try.func126 (of_decide_eq_true rfl) (by rw [den_tg_Clear]; exact hw)

def M_tg_Descend (a0 : PA) (a10 : Int) (a11 : Int) (a2 : Value) : M :=
  .alloc ty_impl_Item [.int .i64 (a10), .int .i64 (a11)] fun n0 =>
  .load (n0, 0) (.int .i64) fun i1 =>
  .load (n0, 1) (.int .i64) fun i2 =>
  .call fn_tg_descend [.c (.addr a0), .agg [.int .i64 (i1), .int .i64 (i2)], .c (.raw (a2)), .c (.ff), .c (.ptr none)] true [] fun r3 =>
  .done .ret []

theorem den_tg_Descend (a0 : PA) (a10 : Int) (a11 : Int) (a2 : Value) : denFn Try.prog Try.f155 [.c (.addr a0), .agg [.int .i64 a10, .int .i64 a11], .c (.raw a2)] = M_tg_Descend a0 a10 a11 a2 := by kernel_rfl
theorem hc_tg_Descend (a0 : PA) (a10 : Int) (a11 : Int) (a2 : Value) {h : H} {R : Value → H → Prop} (hw : wp Try.prog (M_tg_Descend a0 a10 a11 a2) (Ret R) h) : HC Try.prog fn_tg_Descend (List.map AV.val [.c (.addr a0), .agg [.int .i64 a10, .int .i64 a11], .c (.raw a2)]).toArray h R :=
  den_calls hmix Try.func155 (of_decide_eq_true rfl) (by rw [den_tg_Descend]; exact hw)

def M_tg_DescendMut (a0 : PA) (a10 : Int) (a11 : Int) (a2 : Value) : M :=
  .alloc ty_impl_Item [.int .i64 (a10), .int .i64 (a11)] fun n0 =>
  .load (n0, 0) (.int .i64) fun i1 =>
  .load (n0, 1) (.int .i64) fun i2 =>
  .call fn_tg_descend [.c (.addr a0), .agg [.int .i64 (i1), .int .i64 (i2)], .c (.raw (a2)), .c (.tt), .c (.ptr none)] true [] fun r3 =>
  .done .ret []

theorem den_tg_DescendMut (a0 : PA) (a10 : Int) (a11 : Int) (a2 : Value) : denFn Try.prog Try.f154 [.c (.addr a0), .agg [.int .i64 a10, .int .i64 a11], .c (.raw a2)] = M_tg_DescendMut a0 a10 a11 a2 := by kernel_rfl
theorem hc_tg_DescendMut (a0 : PA) (a10 : Int) (a11 : Int) (a2 : Value) {h : H} {R : Value → H → Prop} (hw : wp Try.prog (M_tg_DescendMut a0 a10 a11 a2) (Ret R) h) : HC Try.prog fn_tg_DescendMut (List.map AV.val [.c (.addr a0), .agg [.int .i64 a10, .int .i64 a11], .c (.raw a2)]).toArray h R :=
  den_calls hmix Try.func154 (of_decide_eq_true rfl) (by rw [den_tg_DescendMut]; exact hw)

def M_tg_Get (a0 : PA) (a10 : Int) (a11 : Int) : M :=
  .alloc ty_impl_Item [.int .i64 (a10), .int .i64 (a11)] fun n0 =>
  .alloc ty_impl_Item [.int .i64 (0), .int .i64 (0)] fun n1 =>
  .load (n0, 0) (.int .i64) fun i2 =>
  .load (n0, 1) (.int .i64) fun i3 =>
  .call fn_tg_getHint [.c (.addr a0), .agg [.int .i64 (i2), .int .i64 (i3)], .c (.ptr none), .c (.ff)] true [.agg [.int .i64, .int .i64], .c (.bool)] fun r4 =>
  .store (n1, 0) (.int .i64 (r4.fst.fst)) <|
  .store (n1, 1) (.int .i64 (r4.fst.snd.fst)) <|
  .load (n1, 0) (.int .i64) fun i5 =>
  .load (n1, 1) (.int .i64) fun i6 =>
  .done .ret [.agg [.int .i64 (i5), .int .i64 (i6)], .c (.bool (r4.snd.fst))]

theorem den_tg_Get (a0 : PA) (a10 : Int) (a11 : Int) : denFn Try.prog Try.f52 [.c (.addr a0), .agg [.int .i64 a10, .int .i64 a11]] = M_tg_Get a0 a10 a11 := by kernel_rfl
theorem hc_tg_Get (a0 : PA) (a10 : Int) (a11 : Int) {h : H} {R : Value → H → Prop} (hw : wp Try.prog (M_tg_Get a0 a10 a11) (Ret R) h) : HC Try.prog fn_tg_Get (List.map AV.val [.c (.addr a0), .agg [.int .i64 a10, .int .i64 a11]]).toArray h R :=
  den_calls hmix Try.func52 (of_decide_eq_true rfl) (by rw [den_tg_Get]; exact hw)

def M_tg_GetAt (a0 : PA) (a1 : Int) : M :=
  .alloc ty_impl_Item [.int .i64 (0), .int .i64 (0)] fun n0 =>
  .call fn_tg_getAt [.c (.addr a0), .c (.int .i64 (a1)), .c (.ff)] true [.agg [.int .i64, .int .i64], .c (.bool)] fun r1 =>
  .store (n0, 0) (.int .i64 (r1.fst.fst)) <|
  .store (n0, 1) (.int .i64 (r1.fst.snd.fst)) <|
  .load (n0, 0) (.int .i64) fun i2 =>
  .load (n0, 1) (.int .i64) fun i3 =>
  .done .ret [.agg [.int .i64 (i2), .int .i64 (i3)], .c (.bool (r1.snd.fst))]

theorem den_tg_GetAt (a0 : PA) (a1 : Int) : denFn Try.prog Try.f54 [.c (.addr a0), .c (.int .i64 a1)] = M_tg_GetAt a0 a1 := by kernel_rfl
theorem hc_tg_GetAt (a0 : PA) (a1 : Int) {h : H} {R : Value → H → Prop} (hw : wp Try.prog (M_tg_GetAt a0 a1) (Ret R) h) : HC Try.prog fn_tg_GetAt (List.map AV.val [.c (.addr a0), .c (.int .i64 a1)]).toArray h R :=
  den_calls hmix Try.func54 (of_decide_eq_true rfl) (by rw [den_tg_GetAt]; exact hw)

def M_tg_GetAtMut (a0 : PA) (a1 : Int) : M :=
  .alloc ty_impl_Item [.int .i64 (0), .int .i64 (0)] fun n0 =>
  .call fn_tg_getAt [.c (.addr a0), .c (.int .i64 (a1)), .c (.tt)] true [.agg [.int .i64, .int .i64], .c (.bool)] fun r1 =>
  .store (n0, 0) (.int .i64 (r1.fst.fst)) <|
  .store (n0, 1) (.int .i64 (r1.fst.snd.fst)) <|
  .load (n0, 0) (.int .i64) fun i2 =>
  .load (n0, 1) (.int .i64) fun i3 =>
  .done .ret [.agg [.int .i64 (i2), .int .i64 (i3)], .c (.bool (r1.snd.fst))]

theorem den_tg_GetAtMut (a0 : PA) (a1 : Int) : denFn Try.prog Try.f53 [.c (.addr a0), .c (.int .i64 a1)] = M_tg_GetAtMut a0 a1 := by kernel_rfl
theorem hc_tg_GetAtMut (a0 : PA) (a1 : Int) {h : H} {R : Value → H → Prop} (hw : wp Try.prog (M_tg_GetAtMut a0 a1) (Ret R) h) : HC Try.prog fn_tg_GetAtMut (List.map AV.val [.c (.addr a0), .c (.int .i64 a1)]).toArray h R :=
  den_calls hmix Try.func53 (of_decide_eq_true rfl) (by rw [den_tg_GetAtMut]; exact hw)

def M_tg_GetHint (a0 : PA) (a10 : Int) (a11 : Int) (a2 : Option PA) : M :=
  .alloc ty_impl_Item [.int .i64 (a10), .int .i64 (a11)] fun n0 =>
  .alloc ty_impl_Item [.int .i64 (0), .int .i64 (0)] fun n1 =>
  .load (n0, 0) (.int .i64) fun i2 =>
  .load (n0, 1) (.int .i64) fun i3 =>
  .call fn_tg_getHint [.c (.addr a0), .agg [.int .i64 (i2), .int .i64 (i3)], .c (.ptr (a2)), .c (.ff)] true [.agg [.int .i64, .int .i64], .c (.bool)] fun r4 =>
  .store (n1, 0) (.int .i64 (r4.fst.fst)) <|
  .store (n1, 1) (.int .i64 (r4.fst.snd.fst)) <|
  .load (n1, 0) (.int .i64) fun i5 =>
  .load (n1, 1) (.int .i64) fun i6 =>
  .done .ret [.agg [.int .i64 (i5), .int .i64 (i6)], .c (.bool (r4.snd.fst))]

theorem den_tg_GetHint (a0 : PA) (a10 : Int) (a11 : Int) (a2 : Option PA) : denFn Try.prog Try.f125 [.c (.addr a0), .agg [.int .i64 a10, .int .i64 a11], .c (.ptr a2)] = M_tg_GetHint a0 a10 a11 a2 := by kernel_rfl
theorem hc_tg_GetHint (a0 : PA) (a10 : Int) (a11 : Int) (a2 : Option PA) {h : H} {R : Value → H → Prop} (hw : wp Try.prog (M_tg_GetHint a0 a10 a11 a2) (Ret R) h) : HC Try.prog fn_tg_GetHint (List.map AV.val [.c (.addr a0), .agg [.int .i64 a10, .int .i64 a11], .c (.ptr a2)]).toArray h R :=
  den_calls hmix Try.func125 (of_decide_eq_true rfl) (by rw [den_tg_GetHint]; exact hw)

def M_tg_GetMut (a0 : PA) (a10 : Int) (a11 : Int) : M :=
  .alloc ty_impl_Item [.int .i64 (a10), .int .i64 (a11)] fun n0 =>
  .alloc ty_impl_Item [.int .i64 (0), .int .i64 (0)] fun n1 =>
  .load (n0, 0) (.int .i64) fun i2 =>
  .load (n0, 1) (.int .i64) fun i3 =>
  .call fn_tg_getHint [.c (.addr a0), .agg [.int .i64 (i2), .int .i64 (i3)], .c (.ptr none), .c (.tt)] true [.agg [.int .i64, .int .i64], .c (.bool)] fun r4 =>
  .store (n1, 0) (.int .i64 (r4.fst.fst)) <|
  .store (n1, 1) (.int .i64 (r4.fst.snd.fst)) <|
  .load (n1, 0) (.int .i64) fun i5 =>
  .load (n1, 1) (.int .i64) fun i6 =>
  .done .ret [.agg [.int .i64 (i5), .int .i64 (i6)], .c (.bool (r4.snd.fst))]

theorem den_tg_GetMut (a0 : PA) (a10 : Int) (a11 : Int) : denFn Try.prog Try.f51 [.c (.addr a0), .agg [.int .i64 a10, .int .i64 a11]] = M_tg_GetMut a0 a10 a11 := by kernel_rfl
theorem hc_tg_GetMut (a0 : PA) (a10 : Int) (a11 : Int) {h : H} {R : Value → H → Prop} (hw : wp Try.prog (M_tg_GetMut a0 a10 a11) (Ret R) h) : HC Try.prog fn_tg_GetMut (List.map AV.val [.c (.addr a0), .agg [.int .i64 a10, .int .i64 a11]]).toArray h R :=
  den_calls hmix Try.func51 (of_decide_eq_true rfl) (by rw [den_tg_GetMut]; exact hw)

def M_tg_Items (a0 : PA) : M :=
  .call fn_tg_items [.c (.addr a0), .c (.ff)] false [.c (.sl)] fun r0 =>
  .done .ret [.c (.sl (r0.fst.fst) (r0.fst.snd.fst) (r0.fst.snd.snd))]

theorem den_tg_Items (a0 : PA) : denFn Try.prog Try.f47 [.c (.addr a0)] = M_tg_Items a0 := by kernel_rfl
theorem hc_tg_Items (a0 : PA) {h : H} {R : Value → H → Prop} (hw : wp Try.prog (M_tg_Items a0) (Ret R) h) : HC Try.prog fn_tg_Items (List.map AV.val [.c (.addr a0)]).toArray h R :=
  den_calls hmix Try.func47 (of_decide_eq_true rfl) (by rw [den_tg_Items]; exact hw)

def M_tg_ItemsMut (a0 : PA) : M :=
  .call fn_tg_items [.c (.addr a0), .c (.tt)] false [.c (.sl)] fun r0 =>
  .done .ret [.c (.sl (r0.fst.fst) (r0.fst.snd.fst) (r0.fst.snd.snd))]

theorem den_tg_ItemsMut (a0 : PA) : denFn Try.prog Try.f59 [.c (.addr a0)] = M_tg_ItemsMut a0 := by kernel_rfl
theorem hc_tg_ItemsMut (a0 : PA) {h : H} {R : Value → H → Prop} (hw : wp Try.prog (M_tg_ItemsMut a0) (Ret R) h) : HC Try.prog fn_tg_ItemsMut (List.map AV.val [.c (.addr a0)]).toArray h R :=
  den_calls hmix Try.func59 (of_decide_eq_true rfl) (by rw [den_tg_ItemsMut]; exact hw)

def M_tg_Len (a0 : PA) : M :=
  .load (a0.fst, a0.snd + 3) (.int .i64) fun i0 =>
  .done .ret [.c (.int .i64 (i0))]

theorem den_tg_Len (a0 : PA) : denFn Try.prog Try.f85 [.c (.addr a0)] = M_tg_Len a0 := by kernel_rfl
theorem hc_tg_Len (a0 : PA) {h : H} {R : Value → H → Prop} (hw : wp Try.prog (M_tg_Len a0) (Ret R) h) : HC Try.prog fn_tg_Len (List.map AV.val [.c (.addr a0)]).toArray h R :=
  den_calls hmix Try.func85 (of_decide_eq_true rfl) (by rw [den_tg_Len]; exact hw)

def M_tg_Load (a0 : PA) (a10 : Int) (a11 : Int) : M :=
  .alloc ty_impl_Item [.int .i64 (a10), .int .i64 (a11)] fun n0 =>
  .alloc ty_impl_Item [.int .i64 (0), .int .i64 (0)] fun n1 =>
  .call fn_tg_lock [.c (.addr a0), .c (.tt)] false [.c (.bool)] fun r2 =>
  .bind none (.ite (r2.fst)
    (.fail)
    (.done .normal [])) [] fun x3 =>
  .load (a0.fst, a0.snd + 2) (.ptr) fun q4 =>
  .ite (Option.isNone q4)
  (.load (n0, 0) (.int .i64) fun i5 =>
    .load (n0, 1) (.int .i64) fun i6 =>
    .call fn_tg_setHint [.c (.addr a0), .agg [.int .i64 (i5), .int .i64 (i6)], .c (.ptr none)] true [.agg [.int .i64, .int .i64], .c (.bool)] fun r7 =>
    .store (n1, 0) (.int .i64 (r7.fst.fst)) <|
    .store (n1, 1) (.int .i64 (r7.fst.snd.fst)) <|
    .load (n1, 0) (.int .i64) fun i8 =>
    .load (n1, 1) (.int .i64) fun i9 =>
    .done .ret [.agg [.int .i64 (i8), .int .i64 (i9)], .c (.bool (r7.snd.fst))])
  (.call fn_tg_isoLoad [.c (.addr a0), .c (.addr (a0.fst, a0.snd + 2)), .c (.tt)] false [.c (.ptr)] fun r10 =>
    .bind (some 0) (.loop [.c (.ptr)] [.c (.ptr (r10.fst))] fun y11 =>
        .nonnil (y11.fst) fun p12 =>
        .load (p12.fst, p12.snd + 1) (.int .i64) fun i13 =>
        .guard (InK IntKind.i64 (i13 + 1)) <|
        .nonnil (y11.fst) fun p14 =>
        .store (p14.fst, p14.snd + 1) (.int .i64 (i13 + 1)) <|
        .call fn_ng_leaf [.c (.ptr (y11.fst))] false [.c (.bool)] fun r15 =>
        .ite (r15.fst)
        (.nonnil (y11.fst) fun p16 =>
          .load (p16.fst, p16.snd + 2) (.sl) fun s17 =>
          .load (a0.fst, a0.snd + 9) (.int .i64) fun i18 =>
          .bind none (.ite (decide ((↑s17.snd.fst : Int) < i18))
            (.nonnil (y11.fst) fun p19 =>
              .load (p19.fst, p19.snd + 2) (.sl) fun s20 =>
              .nonnil (y11.fst) fun p21 =>
              .load (p21.fst, p21.snd + 2) (.sl) fun s22 =>
              .guard (InK IntKind.i64 ((↑s22.snd.fst : Int) - 1)) <|
              .nonnil (s20.fst) fun p23 =>
              .guard (((0 : Int) ≤ (↑s22.snd.fst : Int) - 1) ∧ (((↑s22.snd.fst : Int) - 1 : Int) < (↑s20.snd.fst : Int))) <|
              .load (p23.fst, p23.snd + mulN ((↑s22.snd.fst : Int) - 1).toNat 2) (.int .i64) fun i24 =>
              .load (p23.fst, p23.snd + mulN ((↑s22.snd.fst : Int) - 1).toNat 2 + 1) (.int .i64) fun i25 =>
              .load (n0, 0) (.int .i64) fun i26 =>
              .load (n0, 1) (.int .i64) fun i27 =>
              .call fn_tg_Less [.c (.addr a0), .agg [.int .i64 (i24), .int .i64 (i25)], .agg [.int .i64 (i26), .int .i64 (i27)]] false [.c (.bool)] fun r28 =>
              .ite (r28.fst)
              (.nonnil (y11.fst) fun p29 =>
                .load (p29.fst, p29.snd + 2) (.sl) fun s30 =>
                .load (n0, 0) (.int .i64) fun i31 =>
                .load (n0, 1) (.int .i64) fun i32 =>
                .alloc ty_impl_Item [.int .i64 (i31), .int .i64 (i32)] fun n33 =>
                .held (p29.fst, p29.snd + 2) (.sl (s30.fst) (s30.snd.fst) (s30.snd.snd)) <|
                .append ty_impl_Item 2 16 [.int .i64 (0), .int .i64 (0)] ((s30.fst), s30.snd.fst, s30.snd.snd) ((some (n33, 0)), 1, 1) fun s34 =>
                .nonnil (y11.fst) fun p35 =>
                .store (p35.fst, p35.snd + 2) (.sl (s34.fst) (s34.snd.fst) (s34.snd.snd)) <|
                .load (a0.fst, a0.snd + 3) (.int .i64) fun i36 =>
                .guard (InK IntKind.i64 (i36 + 1)) <|
                .store (a0.fst, a0.snd + 3) (.int .i64 (i36 + 1)) <|
                .load (a0.fst, a0.snd + 7) (.int .i64) fun i37 =>
                .load (a0.fst, a0.snd + 8) (.int .i64) fun i38 =>
                .store (n1, 0) (.int .i64 (i37)) <|
                .store (n1, 1) (.int .i64 (i38)) <|
                .load (n1, 0) (.int .i64) fun i39 =>
                .load (n1, 1) (.int .i64) fun i40 =>
                .done .ret [.agg [.int .i64 (i39), .int .i64 (i40)], .c (.ff)])
              (.done .normal []))
            (.done .normal [])) [] fun x41 =>
          .done (.exit 0) [])
        (.nonnil (y11.fst) fun p42 =>
          .load (p42.fst, p42.snd + 3) (.ptr) fun q43 =>
          .nonnil (q43) fun p44 =>
          .load p44 (.sl) fun s45 =>
          .nonnil (y11.fst) fun p46 =>
          .load (p46.fst, p46.snd + 3) (.ptr) fun q47 =>
          .nonnil (q47) fun p48 =>
          .load p48 (.sl) fun s49 =>
          .guard (InK IntKind.i64 ((↑s49.snd.fst : Int) - 1)) <|
          .nonnil (s45.fst) fun p50 =>
          .guard (((0 : Int) ≤ (↑s49.snd.fst : Int) - 1) ∧ (((↑s49.snd.fst : Int) - 1 : Int) < (↑s45.snd.fst : Int))) <|
          .call fn_tg_isoLoad [.c (.addr a0), .c (.addr (p50.fst, p50.snd + ((↑s49.snd.fst : Int) - 1).toNat)), .c (.tt)] false [.c (.ptr)] fun r51 =>
          .done .normal [.c (.ptr (r51.fst))])) [] fun x52 =>
    .load (a0.fst, a0.snd + 2) (.ptr) fun q53 =>
    .bind (some 2) (.loop [.c (.ptr)] [.c (.ptr (q53))] fun y54 =>
        .nonnil (y54.fst) fun p55 =>
        .load (p55.fst, p55.snd + 1) (.int .i64) fun i56 =>
        .guard (InK IntKind.i64 (i56 - 1)) <|
        .nonnil (y54.fst) fun p57 =>
        .store (p57.fst, p57.snd + 1) (.int .i64 (i56 - 1)) <|
        .call fn_ng_leaf [.c (.ptr (y54.fst))] false [.c (.bool)] fun r58 =>
        .ite (r58.fst)
        (.done (.exit 2) [])
        (.nonnil (y54.fst) fun p59 =>
          .load (p59.fst, p59.snd + 3) (.ptr) fun q60 =>
          .nonnil (q60) fun p61 =>
          .load p61 (.sl) fun s62 =>
          .nonnil (y54.fst) fun p63 =>
          .load (p63.fst, p63.snd + 3) (.ptr) fun q64 =>
          .nonnil (q64) fun p65 =>
          .load p65 (.sl) fun s66 =>
          .guard (InK IntKind.i64 ((↑s66.snd.fst : Int) - 1)) <|
          .nonnil (s62.fst) fun p67 =>
          .guard (((0 : Int) ≤ (↑s66.snd.fst : Int) - 1) ∧ (((↑s66.snd.fst : Int) - 1 : Int) < (↑s62.snd.fst : Int))) <|
          .load (p67.fst, p67.snd + ((↑s66.snd.fst : Int) - 1).toNat) (.ptr) fun q68 =>
          .done .normal [.c (.ptr (q68))])) [] fun x69 =>
    .load (n0, 0) (.int .i64) fun i70 =>
    .load (n0, 1) (.int .i64) fun i71 =>
    .call fn_tg_setHint [.c (.addr a0), .agg [.int .i64 (i70), .int .i64 (i71)], .c (.ptr none)] true [.agg [.int .i64, .int .i64], .c (.bool)] fun r72 =>
    .store (n1, 0) (.int .i64 (r72.fst.fst)) <|
    .store (n1, 1) (.int .i64 (r72.fst.snd.fst)) <|
    .load (n1, 0) (.int .i64) fun i73 =>
    .load (n1, 1) (.int .i64) fun i74 =>
    .done .ret [.agg [.int .i64 (i73), .int .i64 (i74)], .c (.bool (r72.snd.fst))])

theorem den_tg_Load (a0 : PA) (a10 : Int) (a11 : Int) : denFn Try.prog Try.f124 [.c (.addr a0), .agg [.int .i64 a10, .int .i64 a11]] = M_tg_Load a0 a10 a11 := by kernel_rfl
theorem hc_tg_Load (a0 : PA) (a10 : Int) (a11 : Int) {h : H} {R : Value → H → Prop} (hw : wp Try.prog (M_tg_Load a0 a10 a11) (Ret R) h) : HC Try.prog fn_tg_Load (List.map AV.val [.c (.addr a0), .agg [.int .i64 a10, .int .i64 a11]]).toArray h R :=
  den_calls hmix Try.func124 (of_decide_eq_true rfl) (by rw [den_tg_Load]; exact hw)

def M_tg_Max (a0 : PA) : M :=
  .alloc ty_impl_Item [.int .i64 (0), .int .i64 (0)] fun n0 =>
  .call fn_tg_maxMut [.c (.addr a0), .c (.ff)] true [.agg [.int .i64, .int .i64], .c (.bool)] fun r1 =>
  .store (n0, 0) (.int .i64 (r1.fst.fst)) <|
  .store (n0, 1) (.int .i64 (r1.fst.snd.fst)) <|
  .load (n0, 0) (.int .i64) fun i2 =>
  .load (n0, 1) (.int .i64) fun i3 =>
  .done .ret [.agg [.int .i64 (i2), .int .i64 (i3)], .c (.bool (r1.snd.fst))]

theorem den_tg_Max (a0 : PA) : denFn Try.prog Try.f58 [.c (.addr a0)] = M_tg_Max a0 := by kernel_rfl
theorem hc_tg_Max (a0 : PA) {h : H} {R : Value → H → Prop} (hw : wp Try.prog (M_tg_Max a0) (Ret R) h) : HC Try.prog fn_tg_Max (List.map AV.val [.c (.addr a0)]).toArray h R :=
  den_calls hmix Try.func58 (of_decide_eq_true rfl) (by rw [den_tg_Max]; exact hw)

def M_tg_MaxMut (a0 : PA) : M :=
  .alloc ty_impl_Item [.int .i64 (0), .int .i64 (0)] fun n0 =>
  .call fn_tg_maxMut [.c (.addr a0), .c (.tt)] true [.agg [.int .i64, .int .i64], .c (.bool)] fun r1 =>
  .store (n0, 0) (.int .i64 (r1.fst.fst)) <|
  .store (n0, 1) (.int .i64 (r1.fst.snd.fst)) <|
  .load (n0, 0) (.int .i64) fun i2 =>
  .load (n0, 1) (.int .i64) fun i3 =>
  .done .ret [.agg [.int .i64 (i2), .int .i64 (i3)], .c (.bool (r1.snd.fst))]

theorem den_tg_MaxMut (a0 : PA) : denFn Try.prog Try.f57 [.c (.addr a0)] = M_tg_MaxMut a0 := by kernel_rfl
theorem hc_tg_MaxMut (a0 : PA) {h : H} {R : Value → H → Prop} (hw : wp Try.prog (M_tg_MaxMut a0) (Ret R) h) : HC Try.prog fn_tg_MaxMut (List.map AV.val [.c (.addr a0)]).toArray h R :=
  den_calls hmix Try.func57 (of_decide_eq_true rfl) (by rw [den_tg_MaxMut]; exact hw)

def M_tg_Min (a0 : PA) : M :=
  .alloc ty_impl_Item [.int .i64 (0), .int .i64 (0)] fun n0 =>
  .call fn_tg_minMut [.c (.addr a0), .c (.ff)] true [.agg [.int .i64, .int .i64], .c (.bool)] fun r1 =>
  .store (n0, 0) (.int .i64 (r1.fst.fst)) <|
  .store (n0, 1) (.int .i64 (r1.fst.snd.fst)) <|
  .load (n0, 0) (.int .i64) fun i2 =>
  .load (n0, 1) (.int .i64) fun i3 =>
  .done .ret [.agg [.int .i64 (i2), .int .i64 (i3)], .c (.bool (r1.snd.fst))]

theorem den_tg_Min (a0 : PA) : denFn Try.prog Try.f56 [.c (.addr a0)] = M_tg_Min a0 := by kernel_rfl
theorem hc_tg_Min (a0 : PA) {h : H} {R : Value → H → Prop} (hw : wp Try.prog (M_tg_Min a0) (Ret R) h) : HC Try.prog fn_tg_Min (List.map AV.val [.c (.addr a0)]).toArray h R :=
  den_calls hmix Try.func56 (of_decide_eq_true rfl) (by rw [den_tg_Min]; exact hw)

def M_tg_MinMut (a0 : PA) : M :=
  .alloc ty_impl_Item [.int .i64 (0), .int .i64 (0)] fun n0 =>
  .call fn_tg_minMut [.c (.addr a0), .c (.tt)] true [.agg [.int .i64, .int .i64], .c (.bool)] fun r1 =>
  .store (n0, 0) (.int .i64 (r1.fst.fst)) <|
  .store (n0, 1) (.int .i64 (r1.fst.snd.fst)) <|
  .load (n0, 0) (.int .i64) fun i2 =>
  .load (n0, 1) (.int .i64) fun i3 =>
  .done .ret [.agg [.int .i64 (i2), .int .i64 (i3)], .c (.bool (r1.snd.fst))]

theorem den_tg_MinMut (a0 : PA) : denFn Try.prog Try.f55 [.c (.addr a0)] = M_tg_MinMut a0 := by kernel_rfl
theorem hc_tg_MinMut (a0 : PA) {h : H} {R : Value → H → Prop} (hw : wp Try.prog (M_tg_MinMut a0) (Ret R) h) : HC Try.prog fn_tg_MinMut (List.map AV.val [.c (.addr a0)]).toArray h R :=
  den_calls hmix Try.func55 (of_decide_eq_true rfl) (by rw [den_tg_MinMut]; exact hw)

def M_tg_Reverse (a0 : PA) (a1 : Value) : M :=
  .call fn_tg_reverse [.c (.addr a0), .c (.raw (a1)), .c (.ff)] true [] fun r0 =>
  .done .ret []

theorem den_tg_Reverse (a0 : PA) (a1 : Value) : denFn Try.prog Try.f151 [.c (.addr a0), .c (.raw a1)] = M_tg_Reverse a0 a1 := by kernel_rfl
theorem hc_tg_Reverse (a0 : PA) (a1 : Value) {h : H} {R : Value → H → Prop} (hw : wp Try.prog (M_tg_Reverse a0 a1) (Ret R) h) : HC Try.prog fn_tg_Reverse (List.map AV.val [.c (.addr a0), .c (.raw a1)]).toArray h R :=
  den_calls hmix Try.func151 (of_decide_eq_true rfl) (by rw [den_tg_Reverse]; exact hw)

def M_tg_ReverseMut (a0 : PA) (a1 : Value) : M :=
  .call fn_tg_reverse [.c (.addr a0), .c (.raw (a1)), .c (.tt)] true [] fun r0 =>
  .done .ret []

theorem den_tg_ReverseMut (a0 : PA) (a1 : Value) : denFn Try.prog Try.f150 [.c (.addr a0), .c (.raw a1)] = M_tg_ReverseMut a0 a1 := by kernel_rfl
theorem hc_tg_ReverseMut (a0 : PA) (a1 : Value) {h : H} {R : Value → H → Prop} (hw : wp Try.prog (M_tg_ReverseMut a0 a1) (Ret R) h) : HC Try.prog fn_tg_ReverseMut (List.map AV.val [.c (.addr a0), .c (.raw a1)]).toArray h R :=
  den_calls hmix Try.func150 (of_decide_eq_true rfl) (by rw [den_tg_ReverseMut]; exact hw)

def M_tg_Scan (a0 : PA) (a1 : Value) : M :=
  .call fn_tg_scan [.c (.addr a0), .c (.raw (a1)), .c (.ff)] true [] fun r0 =>
  .done .ret []

theorem den_tg_Scan (a0 : PA) (a1 : Value) : denFn Try.prog Try.f149 [.c (.addr a0), .c (.raw a1)] = M_tg_Scan a0 a1 := by kernel_rfl
theorem hc_tg_Scan (a0 : PA) (a1 : Value) {h : H} {R : Value → H → Prop} (hw : wp Try.prog (M_tg_Scan a0 a1) (Ret R) h) : HC Try.prog fn_tg_Scan (List.map AV.val [.c (.addr a0), .c (.raw a1)]).toArray h R :=
  den_calls hmix Try.func149 (of_decide_eq_true rfl) (by rw [den_tg_Scan]; exact hw)

def M_tg_ScanMut (a0 : PA) (a1 : Value) : M :=
  .call fn_tg_scan [.c (.addr a0), .c (.raw (a1)), .c (.tt)] true [] fun r0 =>
  .done .ret []

theorem den_tg_ScanMut (a0 : PA) (a1 : Value) : denFn Try.prog Try.f148 [.c (.addr a0), .c (.raw a1)] = M_tg_ScanMut a0 a1 := by kernel_rfl
theorem hc_tg_ScanMut (a0 : PA) (a1 : Value) {h : H} {R : Value → H → Prop} (hw : wp Try.prog (M_tg_ScanMut a0 a1) (Ret R) h) : HC Try.prog fn_tg_ScanMut (List.map AV.val [.c (.addr a0), .c (.raw a1)]).toArray h R :=
  den_calls hmix Try.func148 (of_decide_eq_true rfl) (by rw [den_tg_ScanMut]; exact hw)

def M_tg_ascend (a0 : PA) (a10 : Int) (a11 : Int) (a2 : Value) (a3 : Bool) (a4 : Option PA) : M :=
  .alloc ty_impl_Item [.int .i64 (a10), .int .i64 (a11)] fun n0 =>
  .call fn_tg_lock [.c (.addr a0), .c (.bool (a3))] false [.c (.bool)] fun r1 =>
  .bind none (.ite (r1.fst)
    (.fail)
    (.done .normal [])) [] fun x2 =>
  .load (a0.fst, a0.snd + 2) (.ptr) fun q3 =>
  .ite (Option.isNone q3)
  (.done .ret [])
  (.load (n0, 0) (.int .i64) fun i4 =>
    .load (n0, 1) (.int .i64) fun i5 =>
    .call fn_tg_nodeAscend [.c (.addr a0), .c (.addr (a0.fst, a0.snd + 2)), .agg [.int .i64 (i4), .int .i64 (i5)], .c (.ptr (a4)), .c (.int .i64 (0)), .c (.raw (a2)), .c (.bool (a3))] false [.c (.bool)] fun r6 =>
    .done .ret [])

theorem den_tg_ascend (a0 : PA) (a10 : Int) (a11 : Int) (a2 : Value) (a3 : Bool) (a4 : Option PA) : denFn Try.prog Try.f128 [.c (.addr a0), .agg [.int .i64 a10, .int .i64 a11], .c (.raw a2), .c (.bool a3), .c (.ptr a4)] = M_tg_ascend a0 a10 a11 a2 a3 a4 := by kernel_rfl
theorem hc_tg_ascend (a0 : PA) (a10 : Int) (a11 : Int) (a2 : Value) (a3 : Bool) (a4 : Option PA) {h : H} {R : Value → H → Prop} (hw : wp Try.prog (M_tg_ascend a0 a10 a11 a2 a3 a4) (Ret R) h) : HC Try.prog fn_tg_ascend (List.map AV.val [.c (.addr a0), .agg [.int .i64 a10, .int .i64 a11], .c (.raw a2), .c (.bool a3), .c (.ptr a4)]).toArray h R :=
  den_calls hmix Try.func128 (of_decide_eq_true rfl) (by rw [den_tg_ascend]; exact hw)

def M_tg_descend (a0 : PA) (a10 : Int) (a11 : Int) (a2 : Value) (a3 : Bool) (a4 : Option PA) : M :=
  .alloc ty_impl_Item [.int .i64 (a10), .int .i64 (a11)] fun n0 =>
  .call fn_tg_lock [.c (.addr a0), .c (.bool (a3))] false [.c (.bool)] fun r1 =>
  .bind none (.ite (r1.fst)
    (.fail)
    (.done .normal [])) [] fun x2 =>
  .load (a0.fst, a0.snd + 2) (.ptr) fun q3 =>
  .ite (Option.isNone q3)
  (.done .ret [])
  (.load (n0, 0) (.int .i64) fun i4 =>
    .load (n0, 1) (.int .i64) fun i5 =>
    .call fn_tg_nodeDescend [.c (.addr a0), .c (.addr (a0.fst, a0.snd + 2)), .agg [.int .i64 (i4), .int .i64 (i5)], .c (.ptr (a4)), .c (.int .i64 (0)), .c (.raw (a2)), .c (.bool (a3))] false [.c (.bool)] fun r6 =>
    .done .ret [])

theorem den_tg_descend (a0 : PA) (a10 : Int) (a11 : Int) (a2 : Value) (a3 : Bool) (a4 : Option PA) : denFn Try.prog Try.f168 [.c (.addr a0), .agg [.int .i64 a10, .int .i64 a11], .c (.raw a2), .c (.bool a3), .c (.ptr a4)] = M_tg_descend a0 a10 a11 a2 a3 a4 := by kernel_rfl
theorem hc_tg_descend (a0 : PA) (a10 : Int) (a11 : Int) (a2 : Value) (a3 : Bool) (a4 : Option PA) {h : H} {R : Value → H → Prop} (hw : wp Try.prog (M_tg_descend a0 a10 a11 a2 a3 a4) (Ret R) h) : HC Try.prog fn_tg_descend (List.map AV.val [.c (.addr a0), .agg [.int .i64 a10, .int .i64 a11], .c (.raw a2), .c (.bool a3), .c (.ptr a4)]).toArray h R :=
  den_calls hmix Try.func168 (of_decide_eq_true rfl) (by rw [den_tg_descend]; exact hw)

def M_tg_getAt (a0 : PA) (a1 : Int) (a2 : Bool) : M :=
  .alloc ty_impl_Item [.int .i64 (0), .int .i64 (0)] fun n0 =>
  .call fn_tg_lock [.c (.addr a0), .c (.bool (a2))] false [.c (.bool)] fun r1 =>
  .bind none (.ite (r1.fst)
    (.fail)
    (.done .normal [])) [] fun x2 =>
  .bind none (.load (a0.fst, a0.snd + 2) (.ptr) fun q3 =>
    .ite (Option.isNone q3)
    (.done .normal [.c (.tt)])
    (.ite (decide (a1 < 0))
      (.done .normal [.c (.tt)])
      (.load (a0.fst, a0.snd + 3) (.int .i64) fun i4 =>
        .done .normal [.c (.bool (decide (a1 ≥ i4)))]))) [.c (.bool)] fun x5 =>
  .ite (x5.fst)
  (.load (a0.fst, a0.snd + 7) (.int .i64) fun i6 =>
    .load (a0.fst, a0.snd + 8) (.int .i64) fun i7 =>
    .store (n0, 0) (.int .i64 (i6)) <|
    .store (n0, 1) (.int .i64 (i7)) <|
    .load (n0, 0) (.int .i64) fun i8 =>
    .load (n0, 1) (.int .i64) fun i9 =>
    .done .ret [.agg [.int .i64 (i8), .int .i64 (i9)], .c (.ff)])
  (.call fn_tg_isoLoad [.c (.addr a0), .c (.addr (a0.fst, a0.snd + 2)), .c (.bool (a2))] false [.c (.ptr)] fun r10 =>
    .loop [.c (.ptr), .c (.int .i64)] [.c (.ptr (r10.fst)), .c (.int .i64 (a1))] fun y11 =>
      .call fn_ng_leaf [.c (.ptr (y11.fst))] false [.c (.bool)] fun r12 =>
      .ite (r12.fst)
      (.nonnil (y11.fst) fun p13 =>
        .load (p13.fst, p13.snd + 2) (.sl) fun s14 =>
        .nonnil (s14.fst) fun p15 =>
        .guard (((0 : Int) ≤ y11.snd.fst) ∧ ((y11.snd.fst : Int) < (↑s14.snd.fst : Int))) <|
        .load (p15.fst, p15.snd + mulN (Int.toNat y11.snd.fst) 2) (.int .i64) fun i16 =>
        .load (p15.fst, p15.snd + mulN (Int.toNat y11.snd.fst) 2 + 1) (.int .i64) fun i17 =>
        .store (n0, 0) (.int .i64 (i16)) <|
        .store (n0, 1) (.int .i64 (i17)) <|
        .load (n0, 0) (.int .i64) fun i18 =>
        .load (n0, 1) (.int .i64) fun i19 =>
        .done .ret [.agg [.int .i64 (i18), .int .i64 (i19)], .c (.tt)])
      (.bind (some 2) (.loop [.c (.int .i64), .c (.int .i64)] [.c (.int .i64 (0)), .c (.int .i64 (y11.snd.fst))] fun y20 =>
            .nonnil (y11.fst) fun p21 =>
            .load (p21.fst, p21.snd + 2) (.sl) fun s22 =>
            .ite (decide (y20.fst < (↑s22.snd.fst : Int)))
            (.nonnil (y11.fst) fun p23 =>
              .load (p23.fst, p23.snd + 3) (.ptr) fun q24 =>
              .nonnil (q24) fun p25 =>
              .load p25 (.sl) fun s26 =>
              .nonnil (s26.fst) fun p27 =>
              .guard (((0 : Int) ≤ y20.fst) ∧ ((y20.fst : Int) < (↑s26.snd.fst : Int))) <|
              .load (p27.fst, p27.snd + Int.toNat y20.fst) (.ptr) fun q28 =>
              .nonnil (q28) fun p29 =>
              .load (p29.fst, p29.snd + 1) (.int .i64) fun i30 =>
              .ite (decide (y20.snd.fst < i30))
              (.done (.exit 2) [.c (.int .i64 (y20.fst)), .c (.int .i64 (y20.snd.fst))])
              (.nonnil (y11.fst) fun p31 =>
                .load (p31.fst, p31.snd + 3) (.ptr) fun q32 =>
                .nonnil (q32) fun p33 =>
                .load p33 (.sl) fun s34 =>
                .nonnil (s34.fst) fun p35 =>
                .guard (((0 : Int) ≤ y20.fst) ∧ ((y20.fst : Int) < (↑s34.snd.fst : Int))) <|
                .load (p35.fst, p35.snd + Int.toNat y20.fst) (.ptr) fun q36 =>
                .nonnil (q36) fun p37 =>
                .load (p37.fst, p37.snd + 1) (.int .i64) fun i38 =>
                .ite (y20.snd.fst == i38)
                (.nonnil (y11.fst) fun p39 =>
                  .load (p39.fst, p39.snd + 2) (.sl) fun s40 =>
                  .nonnil (s40.fst) fun p41 =>
                  .guard (((0 : Int) ≤ y20.fst) ∧ ((y20.fst : Int) < (↑s40.snd.fst : Int))) <|
                  .load (p41.fst, p41.snd + mulN (Int.toNat y20.fst) 2) (.int .i64) fun i42 =>
                  .load (p41.fst, p41.snd + mulN (Int.toNat y20.fst) 2 + 1) (.int .i64) fun i43 =>
                  .store (n0, 0) (.int .i64 (i42)) <|
                  .store (n0, 1) (.int .i64 (i43)) <|
                  .load (n0, 0) (.int .i64) fun i44 =>
                  .load (n0, 1) (.int .i64) fun i45 =>
                  .done .ret [.agg [.int .i64 (i44), .int .i64 (i45)], .c (.tt)])
                (.nonnil (y11.fst) fun p46 =>
                  .load (p46.fst, p46.snd + 3) (.ptr) fun q47 =>
                  .nonnil (q47) fun p48 =>
                  .load p48 (.sl) fun s49 =>
                  .nonnil (s49.fst) fun p50 =>
                  .guard (((0 : Int) ≤ y20.fst) ∧ ((y20.fst : Int) < (↑s49.snd.fst : Int))) <|
                  .load (p50.fst, p50.snd + Int.toNat y20.fst) (.ptr) fun q51 =>
                  .nonnil (q51) fun p52 =>
                  .load (p52.fst, p52.snd + 1) (.int .i64) fun i53 =>
                  .guard (InK IntKind.i64 (i53 + 1)) <|
                  .guard (InK IntKind.i64 (y20.snd.fst - (i53 + 1))) <|
                  .guard (InK IntKind.i64 (y20.fst + 1)) <|
                  .done .normal [.c (.int .i64 (y20.fst + 1)), .c (.int .i64 (y20.snd.fst - (i53 + 1)))])))
            (.done (.exit 2) [.c (.int .i64 (y20.fst)), .c (.int .i64 (y20.snd.fst))])) [.c (.int .i64), .c (.int .i64)] fun x54 =>
        .nonnil (y11.fst) fun p55 =>
        .load (p55.fst, p55.snd + 3) (.ptr) fun q56 =>
        .nonnil (q56) fun p57 =>
        .load p57 (.sl) fun s58 =>
        .nonnil (s58.fst) fun p59 =>
        .guard (((0 : Int) ≤ x54.fst) ∧ ((x54.fst : Int) < (↑s58.snd.fst : Int))) <|
        .call fn_tg_isoLoad [.c (.addr a0), .c (.addr (p59.fst, p59.snd + Int.toNat x54.fst)), .c (.bool (a2))] false [.c (.ptr)] fun r60 =>
        .done .normal [.c (.ptr (r60.fst)), .c (.int .i64 (x54.snd.fst))]))

theorem den_tg_getAt (a0 : PA) (a1 : Int) (a2 : Bool) : denFn Try.prog Try.f91 [.c (.addr a0), .c (.int .i64 a1), .c (.bool a2)] = M_tg_getAt a0 a1 a2 := by kernel_rfl
theorem hc_tg_getAt (a0 : PA) (a1 : Int) (a2 : Bool) {h : H} {R : Value → H → Prop} (hw : wp Try.prog (M_tg_getAt a0 a1 a2) (Ret R) h) : HC Try.prog fn_tg_getAt (List.map AV.val [.c (.addr a0), .c (.int .i64 a1), .c (.bool a2)]).toArray h R :=
  den_calls hmix Try.func91 (of_decide_eq_true rfl) (by rw [den_tg_getAt]; exact hw)

def M_tg_getHint (a0 : PA) (a10 : Int) (a11 : Int) (a2 : Option PA) (a3 : Bool) : M :=
  .alloc ty_impl_Item [.int .i64 (a10), .int .i64 (a11)] fun n0 =>
  .alloc ty_impl_Item [.int .i64 (0), .int .i64 (0)] fun n1 =>
  .call fn_tg_lock [.c (.addr a0), .c (.bool (a3))] false [.c (.bool)] fun r2 =>
  .bind none (.ite (r2.fst)
    (.fail)
    (.done .normal [])) [] fun x3 =>
  .load (a0.fst, a0.snd + 2) (.ptr) fun q4 =>
  .ite (Option.isNone q4)
  (.load (a0.fst, a0.snd + 7) (.int .i64) fun i5 =>
    .load (a0.fst, a0.snd + 8) (.int .i64) fun i6 =>
    .store (n1, 0) (.int .i64 (i5)) <|
    .store (n1, 1) (.int .i64 (i6)) <|
    .load (n1, 0) (.int .i64) fun i7 =>
    .load (n1, 1) (.int .i64) fun i8 =>
    .done .ret [.agg [.int .i64 (i7), .int .i64 (i8)], .c (.ff)])
  (.call fn_tg_isoLoad [.c (.addr a0), .c (.addr (a0.fst, a0.snd + 2)), .c (.bool (a3))] false [.c (.ptr)] fun r9 =>
    .loop [.c (.int .i64), .c (.ptr)] [.c (.int .i64 (0)), .c (.ptr (r9.fst))] fun y10 =>
      .load (n0, 0) (.int .i64) fun i11 =>
      .load (n0, 1) (.int .i64) fun i12 =>
      .call fn_tg_find [.c (.addr a0), .c (.ptr (y10.snd.fst)), .agg [.int .i64 (i11), .int .i64 (i12)], .c (.ptr (a2)), .c (.int .i64 (y10.fst))] true [.c (.int .i64), .c (.bool)] fun r13 =>
      .ite (r13.snd.fst)
      (.nonnil (y10.snd.fst) fun p14 =>
        .load (p14.fst, p14.snd + 2) (.sl) fun s15 =>
        .nonnil (s15.fst) fun p16 =>
        .guard (((0 : Int) ≤ r13.fst) ∧ ((r13.fst : Int) < (↑s15.snd.fst : Int))) <|
        .load (p16.fst, p16.snd + mulN (Int.toNat r13.fst) 2) (.int .i64) fun i17 =>
        .load (p16.fst, p16.snd + mulN (Int.toNat r13.fst) 2 + 1) (.int .i64) fun i18 =>
        .store (n1, 0) (.int .i64 (i17)) <|
        .store (n1, 1) (.int .i64 (i18)) <|
        .load (n1, 0) (.int .i64) fun i19 =>
        .load (n1, 1) (.int .i64) fun i20 =>
        .done .ret [.agg [.int .i64 (i19), .int .i64 (i20)], .c (.tt)])
      (.nonnil (y10.snd.fst) fun p21 =>
        .load (p21.fst, p21.snd + 3) (.ptr) fun q22 =>
        .ite (Option.isNone q22)
        (.load (a0.fst, a0.snd + 7) (.int .i64) fun i23 =>
          .load (a0.fst, a0.snd + 8) (.int .i64) fun i24 =>
          .store (n1, 0) (.int .i64 (i23)) <|
          .store (n1, 1) (.int .i64 (i24)) <|
          .load (n1, 0) (.int .i64) fun i25 =>
          .load (n1, 1) (.int .i64) fun i26 =>
          .done .ret [.agg [.int .i64 (i25), .int .i64 (i26)], .c (.ff)])
        (.nonnil (y10.snd.fst) fun p27 =>
          .load (p27.fst, p27.snd + 3) (.ptr) fun q28 =>
          .nonnil (q28) fun p29 =>
          .load p29 (.sl) fun s30 =>
          .nonnil (s30.fst) fun p31 =>
          .guard (((0 : Int) ≤ r13.fst) ∧ ((r13.fst : Int) < (↑s30.snd.fst : Int))) <|
          .call fn_tg_isoLoad [.c (.addr a0), .c (.addr (p31.fst, p31.snd + Int.toNat r13.fst)), .c (.bool (a3))] false [.c (.ptr)] fun r32 =>
          .guard (InK IntKind.i64 (y10.fst + 1)) <|
          .done .normal [.c (.int .i64 (y10.fst + 1)), .c (.ptr (r32.fst))])))

theorem den_tg_getHint (a0 : PA) (a10 : Int) (a11 : Int) (a2 : Option PA) (a3 : Bool) : denFn Try.prog Try.f90 [.c (.addr a0), .agg [.int .i64 a10, .int .i64 a11], .c (.ptr a2), .c (.bool a3)] = M_tg_getHint a0 a10 a11 a2 a3 := by kernel_rfl
theorem hc_tg_getHint (a0 : PA) (a10 : Int) (a11 : Int) (a2 : Option PA) (a3 : Bool) {h : H} {R : Value → H → Prop} (hw : wp Try.prog (M_tg_getHint a0 a10 a11 a2 a3) (Ret R) h) : HC Try.prog fn_tg_getHint (List.map AV.val [.c (.addr a0), .agg [.int .i64 a10, .int .i64 a11], .c (.ptr a2), .c (.bool a3)]).toArray h R :=
  den_calls hmix Try.func90 (of_decide_eq_true rfl) (by rw [den_tg_getHint]; exact hw)

def M_tg_items (a0 : PA) (a1 : Bool) : M :=
  .call fn_tg_lock [.c (.addr a0), .c (.bool (a1))] false [.c (.bool)] fun r0 =>
  .bind none (.ite (r0.fst)
    (.fail)
    (.done .normal [])) [] fun x1 =>
  .call fn_tg_Len [.c (.addr a0)] false [.c (.int .i64)] fun r2 =>
  .make ty_impl_Item 2 16 [.int .i64 (0), .int .i64 (0)] (0) (r2.fst) fun s3 =>
  .load (a0.fst, a0.snd + 2) (.ptr) fun q4 =>
  .bind none (.ite (!Option.isNone q4)
    (.call fn_tg_nodeItems [.c (.addr a0), .c (.addr (a0.fst, a0.snd + 2)), .c (.sl (s3.fst) (s3.snd.fst) (s3.snd.snd)), .c (.bool (a1))] false [.c (.sl)] fun r5 =>
      .done .normal [.c (.sl (r5.fst.fst) (r5.fst.snd.fst) (r5.fst.snd.snd))])
    (.done .normal [.c (.sl (s3.fst) (s3.snd.fst) (s3.snd.snd))])) [.c (.sl)] fun x6 =>
  .done .ret [.c (.sl (x6.fst.fst) (x6.fst.snd.fst) (x6.fst.snd.snd))]

theorem den_tg_items (a0 : PA) (a1 : Bool) : denFn Try.prog Try.f81 [.c (.addr a0), .c (.bool a1)] = M_tg_items a0 a1 := by kernel_rfl
theorem hc_tg_items (a0 : PA) (a1 : Bool) {h : H} {R : Value → H → Prop} (hw : wp Try.prog (M_tg_items a0 a1) (Ret R) h) : HC Try.prog fn_tg_items (List.map AV.val [.c (.addr a0), .c (.bool a1)]).toArray h R :=
  den_calls hmix Try.func81 (of_decide_eq_true rfl) (by rw [den_tg_items]; exact hw)

def M_tg_maxMut (a0 : PA) (a1 : Bool) : M :=
  .alloc ty_impl_Item [.int .i64 (0), .int .i64 (0)] fun n0 =>
  .call fn_tg_lock [.c (.addr a0), .c (.bool (a1))] false [.c (.bool)] fun r1 =>
  .bind none (.ite (r1.fst)
    (.fail)
    (.done .normal [])) [] fun x2 =>
  .load (a0.fst, a0.snd + 2) (.ptr) fun q3 =>
  .ite (Option.isNone q3)
  (.load (a0.fst, a0.snd + 7) (.int .i64) fun i4 =>
    .load (a0.fst, a0.snd + 8) (.int .i64) fun i5 =>
    .store (n0, 0) (.int .i64 (i4)) <|
    .store (n0, 1) (.int .i64 (i5)) <|
    .load (n0, 0) (.int .i64) fun i6 =>
    .load (n0, 1) (.int .i64) fun i7 =>
    .done .ret [.agg [.int .i64 (i6), .int .i64 (i7)], .c (.ff)])
  (.call fn_tg_isoLoad [.c (.addr a0), .c (.addr (a0.fst, a0.snd + 2)), .c (.bool (a1))] false [.c (.ptr)] fun r8 =>
    .loop [.c (.ptr)] [.c (.ptr (r8.fst))] fun y9 =>
      .call fn_ng_leaf [.c (.ptr (y9.fst))] false [.c (.bool)] fun r10 =>
      .ite (r10.fst)
      (.nonnil (y9.fst) fun p11 =>
        .load (p11.fst, p11.snd + 2) (.sl) fun s12 =>
        .nonnil (y9.fst) fun p13 =>
        .load (p13.fst, p13.snd + 2) (.sl) fun s14 =>
        .guard (InK IntKind.i64 ((↑s14.snd.fst : Int) - 1)) <|
        .nonnil (s12.fst) fun p15 =>
        .guard (((0 : Int) ≤ (↑s14.snd.fst : Int) - 1) ∧ (((↑s14.snd.fst : Int) - 1 : Int) < (↑s12.snd.fst : Int))) <|
        .load (p15.fst, p15.snd + mulN ((↑s14.snd.fst : Int) - 1).toNat 2) (.int .i64) fun i16 =>
        .load (p15.fst, p15.snd + mulN ((↑s14.snd.fst : Int) - 1).toNat 2 + 1) (.int .i64) fun i17 =>
        .store (n0, 0) (.int .i64 (i16)) <|
        .store (n0, 1) (.int .i64 (i17)) <|
        .load (n0, 0) (.int .i64) fun i18 =>
        .load (n0, 1) (.int .i64) fun i19 =>
        .done .ret [.agg [.int .i64 (i18), .int .i64 (i19)], .c (.tt)])
      (.nonnil (y9.fst) fun p20 =>
        .load (p20.fst, p20.snd + 3) (.ptr) fun q21 =>
        .nonnil (q21) fun p22 =>
        .load p22 (.sl) fun s23 =>
        .nonnil (y9.fst) fun p24 =>
        .load (p24.fst, p24.snd + 3) (.ptr) fun q25 =>
        .nonnil (q25) fun p26 =>
        .load p26 (.sl) fun s27 =>
        .guard (InK IntKind.i64 ((↑s27.snd.fst : Int) - 1)) <|
        .nonnil (s23.fst) fun p28 =>
        .guard (((0 : Int) ≤ (↑s27.snd.fst : Int) - 1) ∧ (((↑s27.snd.fst : Int) - 1 : Int) < (↑s23.snd.fst : Int))) <|
        .call fn_tg_isoLoad [.c (.addr a0), .c (.addr (p28.fst, p28.snd + ((↑s27.snd.fst : Int) - 1).toNat)), .c (.bool (a1))] false [.c (.ptr)] fun r29 =>
        .done .normal [.c (.ptr (r29.fst))]))

theorem den_tg_maxMut (a0 : PA) (a1 : Bool) : denFn Try.prog Try.f93 [.c (.addr a0), .c (.bool a1)] = M_tg_maxMut a0 a1 := by kernel_rfl
theorem hc_tg_maxMut (a0 : PA) (a1 : Bool) {h : H} {R : Value → H → Prop} (hw : wp Try.prog (M_tg_maxMut a0 a1) (Ret R) h) : HC Try.prog fn_tg_maxMut (List.map AV.val [.c (.addr a0), .c (.bool a1)]).toArray h R :=
  den_calls hmix Try.func93 (of_decide_eq_true rfl) (by rw [den_tg_maxMut]; exact hw)

def M_tg_minMut (a0 : PA) (a1 : Bool) : M :=
  .alloc ty_impl_Item [.int .i64 (0), .int .i64 (0)] fun n0 =>
  .call fn_tg_lock [.c (.addr a0), .c (.bool (a1))] false [.c (.bool)] fun r1 =>
  .bind none (.ite (r1.fst)
    (.fail)
    (.done .normal [])) [] fun x2 =>
  .load (a0.fst, a0.snd + 2) (.ptr) fun q3 =>
  .ite (Option.isNone q3)
  (.load (a0.fst, a0.snd + 7) (.int .i64) fun i4 =>
    .load (a0.fst, a0.snd + 8) (.int .i64) fun i5 =>
    .store (n0, 0) (.int .i64 (i4)) <|
    .store (n0, 1) (.int .i64 (i5)) <|
    .load (n0, 0) (.int .i64) fun i6 =>
    .load (n0, 1) (.int .i64) fun i7 =>
    .done .ret [.agg [.int .i64 (i6), .int .i64 (i7)], .c (.ff)])
  (.call fn_tg_isoLoad [.c (.addr a0), .c (.addr (a0.fst, a0.snd + 2)), .c (.bool (a1))] false [.c (.ptr)] fun r8 =>
    .loop [.c (.ptr)] [.c (.ptr (r8.fst))] fun y9 =>
      .call fn_ng_leaf [.c (.ptr (y9.fst))] false [.c (.bool)] fun r10 =>
      .ite (r10.fst)
      (.nonnil (y9.fst) fun p11 =>
        .load (p11.fst, p11.snd + 2) (.sl) fun s12 =>
        .nonnil (s12.fst) fun p13 =>
        .guard (((0 : Int) ≤ 0) ∧ ((0 : Int) < (↑s12.snd.fst : Int))) <|
        .load (p13.fst, p13.snd) (.int .i64) fun i14 =>
        .load (p13.fst, p13.snd + 1) (.int .i64) fun i15 =>
        .store (n0, 0) (.int .i64 (i14)) <|
        .store (n0, 1) (.int .i64 (i15)) <|
        .load (n0, 0) (.int .i64) fun i16 =>
        .load (n0, 1) (.int .i64) fun i17 =>
        .done .ret [.agg [.int .i64 (i16), .int .i64 (i17)], .c (.tt)])
      (.nonnil (y9.fst) fun p18 =>
        .load (p18.fst, p18.snd + 3) (.ptr) fun q19 =>
        .nonnil (q19) fun p20 =>
        .load p20 (.sl) fun s21 =>
        .nonnil (s21.fst) fun p22 =>
        .guard (((0 : Int) ≤ 0) ∧ ((0 : Int) < (↑s21.snd.fst : Int))) <|
        .call fn_tg_isoLoad [.c (.addr a0), .c (.addr (p22.fst, p22.snd)), .c (.bool (a1))] false [.c (.ptr)] fun r23 =>
        .done .normal [.c (.ptr (r23.fst))]))

theorem den_tg_minMut (a0 : PA) (a1 : Bool) : denFn Try.prog Try.f92 [.c (.addr a0), .c (.bool a1)] = M_tg_minMut a0 a1 := by kernel_rfl
theorem hc_tg_minMut (a0 : PA) (a1 : Bool) {h : H} {R : Value → H → Prop} (hw : wp Try.prog (M_tg_minMut a0 a1) (Ret R) h) : HC Try.prog fn_tg_minMut (List.map AV.val [.c (.addr a0), .c (.bool a1)]).toArray h R :=
  den_calls hmix Try.func92 (of_decide_eq_true rfl) (by rw [den_tg_minMut]; exact hw)

def M_tg_nodeAscend (a0 : PA) (a1 : PA) (a20 : Int) (a21 : Int) (a3 : Option PA) (a4 : Int) (a5 : Value) (a6 : Bool) : M :=
  .alloc ty_impl_Item [.int .i64 (a20), .int .i64 (a21)] fun n0 =>
  .call fn_tg_isoLoad [.c (.addr a0), .c (.addr a1), .c (.bool (a6))] false [.c (.ptr)] fun r1 =>
  .load (n0, 0) (.int .i64) fun i2 =>
  .load (n0, 1) (.int .i64) fun i3 =>
  .call fn_tg_find [.c (.addr a0), .c (.ptr (r1.fst)), .agg [.int .i64 (i2), .int .i64 (i3)], .c (.ptr (a3)), .c (.int .i64 (a4))] true [.c (.int .i64), .c (.bool)] fun r4 =>
  .bind none (.ite (!r4.snd.fst)
    (.call fn_ng_leaf [.c (.ptr (r1.fst))] false [.c (.bool)] fun r5 =>
      .bind none (.ite (!r5.fst)
        (.nonnil (r1.fst) fun p6 =>
          .load (p6.fst, p6.snd + 3) (.ptr) fun q7 =>
          .nonnil (q7) fun p8 =>
          .load p8 (.sl) fun s9 =>
          .nonnil (s9.fst) fun p10 =>
          .guard (((0 : Int) ≤ r4.fst) ∧ ((r4.fst : Int) < (↑s9.snd.fst : Int))) <|
          .load (n0, 0) (.int .i64) fun i11 =>
          .load (n0, 1) (.int .i64) fun i12 =>
          .guard (InK IntKind.i64 (a4 + 1)) <|
          .call fn_tg_nodeAscend [.c (.addr a0), .c (.addr (p10.fst, p10.snd + Int.toNat r4.fst)), .agg [.int .i64 (i11), .int .i64 (i12)], .c (.ptr (a3)), .c (.int .i64 (a4 + 1)), .c (.raw (a5)), .c (.bool (a6))] false [.c (.bool)] fun r13 =>
          .ite (!r13.fst)
          (.done .ret [.c (.ff)])
          (.done .normal []))
        (.done .normal [])) [] fun x14 =>
      .done .normal [])
    (.done .normal [])) [] fun x15 =>
  .bind (some 0) (.loop [.c (.int .i64)] [.c (.int .i64 (r4.fst))] fun y16 =>
      .nonnil (r1.fst) fun p17 =>
      .load (p17.fst, p17.snd + 2) (.sl) fun s18 =>
      .ite (decide (y16.fst < (↑s18.snd.fst : Int)))
      (.nonnil (r1.fst) fun p19 =>
        .load (p19.fst, p19.snd + 2) (.sl) fun s20 =>
        .nonnil (s20.fst) fun p21 =>
        .guard (((0 : Int) ≤ y16.fst) ∧ ((y16.fst : Int) < (↑s20.snd.fst : Int))) <|
        .load (p21.fst, p21.snd + mulN (Int.toNat y16.fst) 2) (.int .i64) fun i22 =>
        .load (p21.fst, p21.snd + mulN (Int.toNat y16.fst) 2 + 1) (.int .i64) fun i23 =>
        .callv (a5) [.agg [.int .i64 (i22), .int .i64 (i23)]] false [.c (.bool)] fun r24 =>
        .ite (!r24.fst)
        (.done .ret [.c (.ff)])
        (.call fn_ng_leaf [.c (.ptr (r1.fst))] false [.c (.bool)] fun r25 =>
          .bind none (.ite (!r25.fst)
            (.nonnil (r1.fst) fun p26 =>
              .load (p26.fst, p26.snd + 3) (.ptr) fun q27 =>
              .nonnil (q27) fun p28 =>
              .load p28 (.sl) fun s29 =>
              .guard (InK IntKind.i64 (y16.fst + 1)) <|
              .nonnil (s29.fst) fun p30 =>
              .guard (((0 : Int) ≤ y16.fst + 1) ∧ ((y16.fst + 1 : Int) < (↑s29.snd.fst : Int))) <|
              .call fn_tg_nodeScan [.c (.addr a0), .c (.addr (p30.fst, p30.snd + (y16.fst + 1).toNat)), .c (.raw (a5)), .c (.bool (a6))] false [.c (.bool)] fun r31 =>
              .ite (!r31.fst)
              (.done .ret [.c (.ff)])
              (.done .normal []))
            (.done .normal [])) [] fun x32 =>
          .guard (InK IntKind.i64 (y16.fst + 1)) <|
          .done .normal [.c (.int .i64 (y16.fst + 1))]))
      (.done (.exit 0) [])) [] fun x33 =>
  .done .ret [.c (.tt)]

theorem den_tg_nodeAscend (a0 : PA) (a1 : PA) (a20 : Int) (a21 : Int) (a3 : Option PA) (a4 : Int) (a5 : Value) (a6 : Bool) : denFn Try.prog Try.f156 [.c (.addr a0), .c (.addr a1), .agg [.int .i64 a20, .int .i64 a21], .c (.ptr a3), .c (.int .i64 a4), .c (.raw a5), .c (.bool a6)] = M_tg_nodeAscend a0 a1 a20 a21 a3 a4 a5 a6 := by kernel_rfl
theorem hc_tg_nodeAscend (a0 : PA) (a1 : PA) (a20 : Int) (a21 : Int) (a3 : Option PA) (a4 : Int) (a5 : Value) (a6 : Bool) {h : H} {R : Value → H → Prop} (hw : wp Try.prog (M_tg_nodeAscend a0 a1 a20 a21 a3 a4 a5 a6) (Ret R) h) : HC Try.prog fn_tg_nodeAscend (List.map AV.val [.c (.addr a0), .c (.addr a1), .agg [.int .i64 a20, .int .i64 a21], .c (.ptr a3), .c (.int .i64 a4), .c (.raw a5), .c (.bool a6)]).toArray h R :=
  den_calls hmix Try.func156 (of_decide_eq_true rfl) (by rw [den_tg_nodeAscend]; exact hw)

def M_tg_nodeDescend (a0 : PA) (a1 : PA) (a20 : Int) (a21 : Int) (a3 : Option PA) (a4 : Int) (a5 : Value) (a6 : Bool) : M :=
  .alloc ty_impl_Item [.int .i64 (a20), .int .i64 (a21)] fun n0 =>
  .call fn_tg_isoLoad [.c (.addr a0), .c (.addr a1), .c (.bool (a6))] false [.c (.ptr)] fun r1 =>
  .load (n0, 0) (.int .i64) fun i2 =>
  .load (n0, 1) (.int .i64) fun i3 =>
  .call fn_tg_find [.c (.addr a0), .c (.ptr (r1.fst)), .agg [.int .i64 (i2), .int .i64 (i3)], .c (.ptr (a3)), .c (.int .i64 (a4))] true [.c (.int .i64), .c (.bool)] fun r4 =>
  .bind none (.ite (!r4.snd.fst)
    (.call fn_ng_leaf [.c (.ptr (r1.fst))] false [.c (.bool)] fun r5 =>
      .bind none (.ite (!r5.fst)
        (.nonnil (r1.fst) fun p6 =>
          .load (p6.fst, p6.snd + 3) (.ptr) fun q7 =>
          .nonnil (q7) fun p8 =>
          .load p8 (.sl) fun s9 =>
          .nonnil (s9.fst) fun p10 =>
          .guard (((0 : Int) ≤ r4.fst) ∧ ((r4.fst : Int) < (↑s9.snd.fst : Int))) <|
          .load (n0, 0) (.int .i64) fun i11 =>
          .load (n0, 1) (.int .i64) fun i12 =>
          .guard (InK IntKind.i64 (a4 + 1)) <|
          .call fn_tg_nodeDescend [.c (.addr a0), .c (.addr (p10.fst, p10.snd + Int.toNat r4.fst)), .agg [.int .i64 (i11), .int .i64 (i12)], .c (.ptr (a3)), .c (.int .i64 (a4 + 1)), .c (.raw (a5)), .c (.bool (a6))] false [.c (.bool)] fun r13 =>
          .ite (!r13.fst)
          (.done .ret [.c (.ff)])
          (.done .normal []))
        (.done .normal [])) [] fun x14 =>
      .guard (InK IntKind.i64 (r4.fst - 1)) <|
      .done .normal [.c (.int .i64 (r4.fst - 1))])
    (.done .normal [.c (.int .i64 (r4.fst))])) [.c (.int .i64)] fun x15 =>
  .bind (some 0) (.loop [.c (.int .i64)] [.c (.int .i64 (x15.fst))] fun y16 =>
      .ite (decide (y16.fst ≥ 0))
      (.nonnil (r1.fst) fun p17 =>
        .load (p17.fst, p17.snd + 2) (.sl) fun s18 =>
        .nonnil (s18.fst) fun p19 =>
        .guard (((0 : Int) ≤ y16.fst) ∧ ((y16.fst : Int) < (↑s18.snd.fst : Int))) <|
        .load (p19.fst, p19.snd + mulN (Int.toNat y16.fst) 2) (.int .i64) fun i20 =>
        .load (p19.fst, p19.snd + mulN (Int.toNat y16.fst) 2 + 1) (.int .i64) fun i21 =>
        .callv (a5) [.agg [.int .i64 (i20), .int .i64 (i21)]] false [.c (.bool)] fun r22 =>
        .ite (!r22.fst)
        (.done .ret [.c (.ff)])
        (.call fn_ng_leaf [.c (.ptr (r1.fst))] false [.c (.bool)] fun r23 =>
          .bind none (.ite (!r23.fst)
            (.nonnil (r1.fst) fun p24 =>
              .load (p24.fst, p24.snd + 3) (.ptr) fun q25 =>
              .nonnil (q25) fun p26 =>
              .load p26 (.sl) fun s27 =>
              .nonnil (s27.fst) fun p28 =>
              .guard (((0 : Int) ≤ y16.fst) ∧ ((y16.fst : Int) < (↑s27.snd.fst : Int))) <|
              .call fn_tg_nodeReverse [.c (.addr a0), .c (.addr (p28.fst, p28.snd + Int.toNat y16.fst)), .c (.raw (a5)), .c (.bool (a6))] false [.c (.bool)] fun r29 =>
              .ite (!r29.fst)
              (.done .ret [.c (.ff)])
              (.done .normal []))
            (.done .normal [])) [] fun x30 =>
          .guard (InK IntKind.i64 (y16.fst - 1)) <|
          .done .normal [.c (.int .i64 (y16.fst - 1))]))
      (.done (.exit 0) [])) [] fun x31 =>
  .done .ret [.c (.tt)]

theorem den_tg_nodeDescend (a0 : PA) (a1 : PA) (a20 : Int) (a21 : Int) (a3 : Option PA) (a4 : Int) (a5 : Value) (a6 : Bool) : denFn Try.prog Try.f171 [.c (.addr a0), .c (.addr a1), .agg [.int .i64 a20, .int .i64 a21], .c (.ptr a3), .c (.int .i64 a4), .c (.raw a5), .c (.bool a6)] = M_tg_nodeDescend a0 a1 a20 a21 a3 a4 a5 a6 := by kernel_rfl
theorem hc_tg_nodeDescend (a0 : PA) (a1 : PA) (a20 : Int) (a21 : Int) (a3 : Option PA) (a4 : Int) (a5 : Value) (a6 : Bool) {h : H} {R : Value → H → Prop} (hw : wp Try.prog (M_tg_nodeDescend a0 a1 a20 a21 a3 a4 a5 a6) (Ret R) h) : HC Try.prog fn_tg_nodeDescend (List.map AV.val [.c (.addr a0), .c (.addr a1), .agg [.int .i64 a20, .int .i64 a21], .c (.ptr a3), .c (.int .i64 a4), .c (.raw a5), .c (.bool a6)]).toArray h R :=
  den_calls hmix Try.func171 (of_decide_eq_true rfl) (by rw [den_tg_nodeDescend]; exact hw)

def M_tg_nodeItems (a0 : PA) (a1 : PA) (a2p : Option PA) (a2l : Nat) (a2c : Nat) (a3 : Bool) : M :=
  .call fn_tg_isoLoad [.c (.addr a0), .c (.addr a1), .c (.bool (a3))] false [.c (.ptr)] fun r0 =>
  .call fn_ng_leaf [.c (.ptr (r0.fst))] false [.c (.bool)] fun r1 =>
  .ite (r1.fst)
  (.nonnil (r0.fst) fun p2 =>
    .load (p2.fst, p2.snd + 2) (.sl) fun s3 =>
    .append ty_impl_Item 2 16 [.int .i64 (0), .int .i64 (0)] ((a2p), a2l, a2c) ((s3.fst), s3.snd.fst, s3.snd.snd) fun s4 =>
    .done .ret [.c (.sl (s4.fst) (s4.snd.fst) (s4.snd.snd))])
  (.bind (some 0) (.loop [.c (.int .i64), .c (.sl)] [.c (.int .i64 (0)), .c (.sl (a2p) (a2l) (a2c))] fun y5 =>
        .nonnil (r0.fst) fun p6 =>
        .load (p6.fst, p6.snd + 2) (.sl) fun s7 =>
        .ite (decide (y5.fst < (↑s7.snd.fst : Int)))
        (.nonnil (r0.fst) fun p8 =>
          .load (p8.fst, p8.snd + 3) (.ptr) fun q9 =>
          .nonnil (q9) fun p10 =>
          .load p10 (.sl) fun s11 =>
          .nonnil (s11.fst) fun p12 =>
          .guard (((0 : Int) ≤ y5.fst) ∧ ((y5.fst : Int) < (↑s11.snd.fst : Int))) <|
          .call fn_tg_nodeItems [.c (.addr a0), .c (.addr (p12.fst, p12.snd + Int.toNat y5.fst)), .c (.sl (y5.snd.fst.fst) (y5.snd.fst.snd.fst) (y5.snd.fst.snd.snd)), .c (.bool (a3))] false [.c (.sl)] fun r13 =>
          .nonnil (r0.fst) fun p14 =>
          .load (p14.fst, p14.snd + 2) (.sl) fun s15 =>
          .nonnil (s15.fst) fun p16 =>
          .guard (((0 : Int) ≤ y5.fst) ∧ ((y5.fst : Int) < (↑s15.snd.fst : Int))) <|
          .load (p16.fst, p16.snd + mulN (Int.toNat y5.fst) 2) (.int .i64) fun i17 =>
          .load (p16.fst, p16.snd + mulN (Int.toNat y5.fst) 2 + 1) (.int .i64) fun i18 =>
          .alloc ty_impl_Item [.int .i64 (i17), .int .i64 (i18)] fun n19 =>
          .append ty_impl_Item 2 16 [.int .i64 (0), .int .i64 (0)] ((r13.fst.fst), r13.fst.snd.fst, r13.fst.snd.snd) ((some (n19, 0)), 1, 1) fun s20 =>
          .guard (InK IntKind.i64 (y5.fst + 1)) <|
          .done .normal [.c (.int .i64 (y5.fst + 1)), .c (.sl (s20.fst) (s20.snd.fst) (s20.snd.snd))])
        (.done (.exit 0) [.c (.sl (y5.snd.fst.fst) (y5.snd.fst.snd.fst) (y5.snd.fst.snd.snd))])) [.c (.sl)] fun x21 =>
    .nonnil (r0.fst) fun p22 =>
    .load (p22.fst, p22.snd + 3) (.ptr) fun q23 =>
    .nonnil (q23) fun p24 =>
    .load p24 (.sl) fun s25 =>
    .nonnil (r0.fst) fun p26 =>
    .load (p26.fst, p26.snd + 3) (.ptr) fun q27 =>
    .nonnil (q27) fun p28 =>
    .load p28 (.sl) fun s29 =>
    .guard (InK IntKind.i64 ((↑s29.snd.fst : Int) - 1)) <|
    .nonnil (s25.fst) fun p30 =>
    .guard (((0 : Int) ≤ (↑s29.snd.fst : Int) - 1) ∧ (((↑s29.snd.fst : Int) - 1 : Int) < (↑s25.snd.fst : Int))) <|
    .call fn_tg_nodeItems [.c (.addr a0), .c (.addr (p30.fst, p30.snd + ((↑s29.snd.fst : Int) - 1).toNat)), .c (.sl (x21.fst.fst) (x21.fst.snd.fst) (x21.fst.snd.snd)), .c (.bool (a3))] false [.c (.sl)] fun r31 =>
    .done .ret [.c (.sl (r31.fst.fst) (r31.fst.snd.fst) (r31.fst.snd.snd))])

theorem den_tg_nodeItems (a0 : PA) (a1 : PA) (a2p : Option PA) (a2l : Nat) (a2c : Nat) (a3 : Bool) : denFn Try.prog Try.f120 [.c (.addr a0), .c (.addr a1), .c (.sl a2p a2l a2c), .c (.bool a3)] = M_tg_nodeItems a0 a1 a2p a2l a2c a3 := by kernel_rfl
theorem hc_tg_nodeItems (a0 : PA) (a1 : PA) (a2p : Option PA) (a2l : Nat) (a2c : Nat) (a3 : Bool) {h : H} {R : Value → H → Prop} (hw : wp Try.prog (M_tg_nodeItems a0 a1 a2p a2l a2c a3) (Ret R) h) : HC Try.prog fn_tg_nodeItems (List.map AV.val [.c (.addr a0), .c (.addr a1), .c (.sl a2p a2l a2c), .c (.bool a3)]).toArray h R :=
  den_calls hmix Try.func120 (of_decide_eq_true rfl) (by rw [den_tg_nodeItems]; exact hw)

def M_tg_nodeReverse (a0 : PA) (a1 : PA) (a2 : Value) (a3 : Bool) : M :=
  .call fn_tg_isoLoad [.c (.addr a0), .c (.addr a1), .c (.bool (a3))] false [.c (.ptr)] fun r0 =>
  .call fn_ng_leaf [.c (.ptr (r0.fst))] false [.c (.bool)] fun r1 =>
  .ite (r1.fst)
  (.nonnil (r0.fst) fun p2 =>
    .load (p2.fst, p2.snd + 2) (.sl) fun s3 =>
    .guard (InK IntKind.i64 ((↑s3.snd.fst : Int) - 1)) <|
    .bind (some 0) (.loop [.c (.int .i64)] [.c (.int .i64 ((↑s3.snd.fst : Int) - 1))] fun y4 =>
        .ite (decide (y4.fst ≥ 0))
        (.nonnil (r0.fst) fun p5 =>
          .load (p5.fst, p5.snd + 2) (.sl) fun s6 =>
          .nonnil (s6.fst) fun p7 =>
          .guard (((0 : Int) ≤ y4.fst) ∧ ((y4.fst : Int) < (↑s6.snd.fst : Int))) <|
          .load (p7.fst, p7.snd + mulN (Int.toNat y4.fst) 2) (.int .i64) fun i8 =>
          .load (p7.fst, p7.snd + mulN (Int.toNat y4.fst) 2 + 1) (.int .i64) fun i9 =>
          .callv (a2) [.agg [.int .i64 (i8), .int .i64 (i9)]] false [.c (.bool)] fun r10 =>
          .ite (!r10.fst)
          (.done .ret [.c (.ff)])
          (.guard (InK IntKind.i64 (y4.fst - 1)) <|
            .done .normal [.c (.int .i64 (y4.fst - 1))]))
        (.done (.exit 0) [])) [] fun x11 =>
    .done .ret [.c (.tt)])
  (.nonnil (r0.fst) fun p12 =>
    .load (p12.fst, p12.snd + 3) (.ptr) fun q13 =>
    .nonnil (q13) fun p14 =>
    .load p14 (.sl) fun s15 =>
    .nonnil (r0.fst) fun p16 =>
    .load (p16.fst, p16.snd + 3) (.ptr) fun q17 =>
    .nonnil (q17) fun p18 =>
    .load p18 (.sl) fun s19 =>
    .guard (InK IntKind.i64 ((↑s19.snd.fst : Int) - 1)) <|
    .nonnil (s15.fst) fun p20 =>
    .guard (((0 : Int) ≤ (↑s19.snd.fst : Int) - 1) ∧ (((↑s19.snd.fst : Int) - 1 : Int) < (↑s15.snd.fst : Int))) <|
    .call fn_tg_nodeReverse [.c (.addr a0), .c (.addr (p20.fst, p20.snd + ((↑s19.snd.fst : Int) - 1).toNat)), .c (.raw (a2)), .c (.bool (a3))] false [.c (.bool)] fun r21 =>
    .ite (!r21.fst)
    (.done .ret [.c (.ff)])
    (.nonnil (r0.fst) fun p22 =>
      .load (p22.fst, p22.snd + 2) (.sl) fun s23 =>
      .guard (InK IntKind.i64 ((↑s23.snd.fst : Int) - 1)) <|
      .bind (some 2) (.loop [.c (.int .i64)] [.c (.int .i64 ((↑s23.snd.fst : Int) - 1))] fun y24 =>
          .ite (decide (y24.fst ≥ 0))
          (.nonnil (r0.fst) fun p25 =>
            .load (p25.fst, p25.snd + 2) (.sl) fun s26 =>
            .nonnil (s26.fst) fun p27 =>
            .guard (((0 : Int) ≤ y24.fst) ∧ ((y24.fst : Int) < (↑s26.snd.fst : Int))) <|
            .load (p27.fst, p27.snd + mulN (Int.toNat y24.fst) 2) (.int .i64) fun i28 =>
            .load (p27.fst, p27.snd + mulN (Int.toNat y24.fst) 2 + 1) (.int .i64) fun i29 =>
            .callv (a2) [.agg [.int .i64 (i28), .int .i64 (i29)]] false [.c (.bool)] fun r30 =>
            .ite (!r30.fst)
            (.done .ret [.c (.ff)])
            (.nonnil (r0.fst) fun p31 =>
              .load (p31.fst, p31.snd + 3) (.ptr) fun q32 =>
              .nonnil (q32) fun p33 =>
              .load p33 (.sl) fun s34 =>
              .nonnil (s34.fst) fun p35 =>
              .guard (((0 : Int) ≤ y24.fst) ∧ ((y24.fst : Int) < (↑s34.snd.fst : Int))) <|
              .call fn_tg_nodeReverse [.c (.addr a0), .c (.addr (p35.fst, p35.snd + Int.toNat y24.fst)), .c (.raw (a2)), .c (.bool (a3))] false [.c (.bool)] fun r36 =>
              .ite (!r36.fst)
              (.done .ret [.c (.ff)])
              (.guard (InK IntKind.i64 (y24.fst - 1)) <|
                .done .normal [.c (.int .i64 (y24.fst - 1))])))
          (.done (.exit 2) [])) [] fun x37 =>
      .done .ret [.c (.tt)]))

theorem den_tg_nodeReverse (a0 : PA) (a1 : PA) (a2 : Value) (a3 : Bool) : denFn Try.prog Try.f170 [.c (.addr a0), .c (.addr a1), .c (.raw a2), .c (.bool a3)] = M_tg_nodeReverse a0 a1 a2 a3 := by kernel_rfl
theorem hc_tg_nodeReverse (a0 : PA) (a1 : PA) (a2 : Value) (a3 : Bool) {h : H} {R : Value → H → Prop} (hw : wp Try.prog (M_tg_nodeReverse a0 a1 a2 a3) (Ret R) h) : HC Try.prog fn_tg_nodeReverse (List.map AV.val [.c (.addr a0), .c (.addr a1), .c (.raw a2), .c (.bool a3)]).toArray h R :=
  den_calls hmix Try.func170 (of_decide_eq_true rfl) (by rw [den_tg_nodeReverse]; exact hw)

def M_tg_nodeScan (a0 : PA) (a1 : PA) (a2 : Value) (a3 : Bool) : M :=
  .call fn_tg_isoLoad [.c (.addr a0), .c (.addr a1), .c (.bool (a3))] false [.c (.ptr)] fun r0 =>
  .call fn_ng_leaf [.c (.ptr (r0.fst))] false [.c (.bool)] fun r1 =>
  .ite (r1.fst)
  (.bind (some 0) (.loop [.c (.int .i64)] [.c (.int .i64 (0))] fun y2 =>
        .nonnil (r0.fst) fun p3 =>
        .load (p3.fst, p3.snd + 2) (.sl) fun s4 =>
        .ite (decide (y2.fst < (↑s4.snd.fst : Int)))
        (.nonnil (r0.fst) fun p5 =>
          .load (p5.fst, p5.snd + 2) (.sl) fun s6 =>
          .nonnil (s6.fst) fun p7 =>
          .guard (((0 : Int) ≤ y2.fst) ∧ ((y2.fst : Int) < (↑s6.snd.fst : Int))) <|
          .load (p7.fst, p7.snd + mulN (Int.toNat y2.fst) 2) (.int .i64) fun i8 =>
          .load (p7.fst, p7.snd + mulN (Int.toNat y2.fst) 2 + 1) (.int .i64) fun i9 =>
          .callv (a2) [.agg [.int .i64 (i8), .int .i64 (i9)]] false [.c (.bool)] fun r10 =>
          .ite (!r10.fst)
          (.done .ret [.c (.ff)])
          (.guard (InK IntKind.i64 (y2.fst + 1)) <|
            .done .normal [.c (.int .i64 (y2.fst + 1))]))
        (.done (.exit 0) [])) [] fun x11 =>
    .done .ret [.c (.tt)])
  (.bind (some 2) (.loop [.c (.int .i64)] [.c (.int .i64 (0))] fun y12 =>
        .nonnil (r0.fst) fun p13 =>
        .load (p13.fst, p13.snd + 2) (.sl) fun s14 =>
        .ite (decide (y12.fst < (↑s14.snd.fst : Int)))
        (.nonnil (r0.fst) fun p15 =>
          .load (p15.fst, p15.snd + 3) (.ptr) fun q16 =>
          .nonnil (q16) fun p17 =>
          .load p17 (.sl) fun s18 =>
          .nonnil (s18.fst) fun p19 =>
          .guard (((0 : Int) ≤ y12.fst) ∧ ((y12.fst : Int) < (↑s18.snd.fst : Int))) <|
          .call fn_tg_nodeScan [.c (.addr a0), .c (.addr (p19.fst, p19.snd + Int.toNat y12.fst)), .c (.raw (a2)), .c (.bool (a3))] false [.c (.bool)] fun r20 =>
          .ite (!r20.fst)
          (.done .ret [.c (.ff)])
          (.nonnil (r0.fst) fun p21 =>
            .load (p21.fst, p21.snd + 2) (.sl) fun s22 =>
            .nonnil (s22.fst) fun p23 =>
            .guard (((0 : Int) ≤ y12.fst) ∧ ((y12.fst : Int) < (↑s22.snd.fst : Int))) <|
            .load (p23.fst, p23.snd + mulN (Int.toNat y12.fst) 2) (.int .i64) fun i24 =>
            .load (p23.fst, p23.snd + mulN (Int.toNat y12.fst) 2 + 1) (.int .i64) fun i25 =>
            .callv (a2) [.agg [.int .i64 (i24), .int .i64 (i25)]] false [.c (.bool)] fun r26 =>
            .ite (!r26.fst)
            (.done .ret [.c (.ff)])
            (.guard (InK IntKind.i64 (y12.fst + 1)) <|
              .done .normal [.c (.int .i64 (y12.fst + 1))])))
        (.done (.exit 2) [])) [] fun x27 =>
    .nonnil (r0.fst) fun p28 =>
    .load (p28.fst, p28.snd + 3) (.ptr) fun q29 =>
    .nonnil (q29) fun p30 =>
    .load p30 (.sl) fun s31 =>
    .nonnil (r0.fst) fun p32 =>
    .load (p32.fst, p32.snd + 3) (.ptr) fun q33 =>
    .nonnil (q33) fun p34 =>
    .load p34 (.sl) fun s35 =>
    .guard (InK IntKind.i64 ((↑s35.snd.fst : Int) - 1)) <|
    .nonnil (s31.fst) fun p36 =>
    .guard (((0 : Int) ≤ (↑s35.snd.fst : Int) - 1) ∧ (((↑s35.snd.fst : Int) - 1 : Int) < (↑s31.snd.fst : Int))) <|
    .call fn_tg_nodeScan [.c (.addr a0), .c (.addr (p36.fst, p36.snd + ((↑s35.snd.fst : Int) - 1).toNat)), .c (.raw (a2)), .c (.bool (a3))] false [.c (.bool)] fun r37 =>
    .done .ret [.c (.bool (r37.fst))])

theorem den_tg_nodeScan (a0 : PA) (a1 : PA) (a2 : Value) (a3 : Bool) : denFn Try.prog Try.f169 [.c (.addr a0), .c (.addr a1), .c (.raw a2), .c (.bool a3)] = M_tg_nodeScan a0 a1 a2 a3 := by kernel_rfl
theorem hc_tg_nodeScan (a0 : PA) (a1 : PA) (a2 : Value) (a3 : Bool) {h : H} {R : Value → H → Prop} (hw : wp Try.prog (M_tg_nodeScan a0 a1 a2 a3) (Ret R) h) : HC Try.prog fn_tg_nodeScan (List.map AV.val [.c (.addr a0), .c (.addr a1), .c (.raw a2), .c (.bool a3)]).toArray h R :=
  den_calls hmix Try.func169 (of_decide_eq_true rfl) (by rw [den_tg_nodeScan]; exact hw)

def M_tg_reverse (a0 : PA) (a1 : Value) (a2 : Bool) : M :=
  .call fn_tg_lock [.c (.addr a0), .c (.bool (a2))] false [.c (.bool)] fun r0 =>
  .bind none (.ite (r0.fst)
    (.fail)
    (.done .normal [])) [] fun x1 =>
  .load (a0.fst, a0.snd + 2) (.ptr) fun q2 =>
  .ite (Option.isNone q2)
  (.done .ret [])
  (.call fn_tg_nodeReverse [.c (.addr a0), .c (.addr (a0.fst, a0.snd + 2)), .c (.raw (a1)), .c (.bool (a2))] false [.c (.bool)] fun r3 =>
    .done .ret [])

theorem den_tg_reverse (a0 : PA) (a1 : Value) (a2 : Bool) : denFn Try.prog Try.f167 [.c (.addr a0), .c (.raw a1), .c (.bool a2)] = M_tg_reverse a0 a1 a2 := by kernel_rfl
theorem hc_tg_reverse (a0 : PA) (a1 : Value) (a2 : Bool) {h : H} {R : Value → H → Prop} (hw : wp Try.prog (M_tg_reverse a0 a1 a2) (Ret R) h) : HC Try.prog fn_tg_reverse (List.map AV.val [.c (.addr a0), .c (.raw a1), .c (.bool a2)]).toArray h R :=
  den_calls hmix Try.func167 (of_decide_eq_true rfl) (by rw [den_tg_reverse]; exact hw)

def M_tg_scan (a0 : PA) (a1 : Value) (a2 : Bool) : M :=
  .call fn_tg_lock [.c (.addr a0), .c (.bool (a2))] false [.c (.bool)] fun r0 =>
  .bind none (.ite (r0.fst)
    (.fail)
    (.done .normal [])) [] fun x1 =>
  .load (a0.fst, a0.snd + 2) (.ptr) fun q2 =>
  .ite (Option.isNone q2)
  (.done .ret [])
  (.call fn_tg_nodeScan [.c (.addr a0), .c (.addr (a0.fst, a0.snd + 2)), .c (.raw (a1)), .c (.bool (a2))] false [.c (.bool)] fun r3 =>
    .done .ret [])

theorem den_tg_scan (a0 : PA) (a1 : Value) (a2 : Bool) : denFn Try.prog Try.f166 [.c (.addr a0), .c (.raw a1), .c (.bool a2)] = M_tg_scan a0 a1 a2 := by kernel_rfl
theorem hc_tg_scan (a0 : PA) (a1 : Value) (a2 : Bool) {h : H} {R : Value → H → Prop} (hw : wp Try.prog (M_tg_scan a0 a1 a2) (Ret R) h) : HC Try.prog fn_tg_scan (List.map AV.val [.c (.addr a0), .c (.raw a1), .c (.bool a2)]).toArray h R :=
  den_calls hmix Try.func166 (of_decide_eq_true rfl) (by rw [den_tg_scan]; exact hw)

end Go.Proofs.Ytebiihomlhljkaa
