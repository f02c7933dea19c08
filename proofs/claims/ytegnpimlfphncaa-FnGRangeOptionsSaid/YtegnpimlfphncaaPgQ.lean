/-
  Functions of the translation as typed programs, and that each is its function's reading. Written by a program of ours (gen2.py). Conditions: none.
-/
import Derived.Test.YtegnpimlfphncaaNm
namespace Go.Proofs.Ytegnpimlfphncaa
open Go
set_option maxRecDepth 100000
set_option linter.unusedVariables false
def M_extractNodeScan (a0 : PA) (a1 : Value) : M :=
 .call fn_ng_leaf [.c (.addr a0)] false [.c (.bool)] fun r0 =>
 .ite (r0.fst)
 (.bind (some 0) (.loop [.c (.int .i64)] [.c (.int .i64 (0))] fun y1 =>
 .load (a0.fst, a0.snd + 2) (.sl) fun s2 =>
 .ite (decide (y1.fst < (↑s2.snd.fst : Int)))
 (.load (a0.fst, a0.snd + 2) (.sl) fun s3 =>
 .nonnil (s3.fst) fun p4 =>
 .guard (((0 : Int) ≤ y1.fst) ∧ ((y1.fst : Int) < (↑s3.snd.fst : Int))) <|
 .load (p4.fst, p4.snd + mulN (Int.toNat y1.fst) 2) (.int .i64) fun i5 =>
 .load (p4.fst, p4.snd + mulN (Int.toNat y1.fst) 2 + 1) (.int .i64) fun i6 =>
 .callv (a1) [.agg [.int .i64 (i5), .int .i64 (i6)]] false [.c (.bool)] fun r7 =>
 .ite (!r7.fst)
 (.done .ret [.c (.ff)])
 (.guard (InK IntKind.i64 (y1.fst + 1)) <|
 .done .normal [.c (.int .i64 (y1.fst + 1))]))
 (.done (.exit 0) [])) [] fun x8 =>
 .done .ret [.c (.tt)])
 (.bind (some 2) (.loop [.c (.int .i64)] [.c (.int .i64 (0))] fun y9 =>
 .load (a0.fst, a0.snd + 2) (.sl) fun s10 =>
 .ite (decide (y9.fst < (↑s10.snd.fst : Int)))
 (.load (a0.fst, a0.snd + 3) (.ptr) fun q11 =>
 .nonnil (q11) fun p12 =>
 .load p12 (.sl) fun s13 =>
 .nonnil (s13.fst) fun p14 =>
 .guard (((0 : Int) ≤ y9.fst) ∧ ((y9.fst : Int) < (↑s13.snd.fst : Int))) <|
 .load (p14.fst, p14.snd + Int.toNat y9.fst) (.ptr) fun q15 =>
 .call fn_extractNodeScan [.c (.ptr (q15)), .c (.raw (a1))] false [.c (.bool)] fun r16 =>
 .ite (!r16.fst)
 (.done .ret [.c (.ff)])
 (.load (a0.fst, a0.snd + 2) (.sl) fun s17 =>
 .nonnil (s17.fst) fun p18 =>
 .guard (((0 : Int) ≤ y9.fst) ∧ ((y9.fst : Int) < (↑s17.snd.fst : Int))) <|
 .load (p18.fst, p18.snd + mulN (Int.toNat y9.fst) 2) (.int .i64) fun i19 =>
 .load (p18.fst, p18.snd + mulN (Int.toNat y9.fst) 2 + 1) (.int .i64) fun i20 =>
 .callv (a1) [.agg [.int .i64 (i19), .int .i64 (i20)]] false [.c (.bool)] fun r21 =>
 .ite (!r21.fst)
 (.done .ret [.c (.ff)])
 (.guard (InK IntKind.i64 (y9.fst + 1)) <|
 .done .normal [.c (.int .i64 (y9.fst + 1))])))
 (.done (.exit 2) [])) [] fun x22 =>
 .load (a0.fst, a0.snd + 3) (.ptr) fun q23 =>
 .nonnil (q23) fun p24 =>
 .load p24 (.sl) fun s25 =>
 .load (a0.fst, a0.snd + 3) (.ptr) fun q26 =>
 .nonnil (q26) fun p27 =>
 .load p27 (.sl) fun s28 =>
 .guard (InK IntKind.i64 ((↑s28.snd.fst : Int) - 1)) <|
 .nonnil (s25.fst) fun p29 =>
 .guard (((0 : Int) ≤ (↑s28.snd.fst : Int) - 1) ∧ (((↑s28.snd.fst : Int) - 1 : Int) < (↑s25.snd.fst : Int))) <|
 .load (p29.fst, p29.snd + ((↑s28.snd.fst : Int) - 1).toNat) (.ptr) fun q30 =>
 .call fn_extractNodeScan [.c (.ptr (q30)), .c (.raw (a1))] false [.c (.bool)] fun r31 =>
 .done .ret [.c (.bool (r31.fst))])
theorem den_extractNodeScan (a0 : PA) (a1 : Value) : denFn Try.prog Try.f53 [.c (.addr a0), .c (.raw a1)] = M_extractNodeScan a0 a1 := by kernel_rfl
theorem hc_extractNodeScan (a0 : PA) (a1 : Value) {h : H} {R : Value → H → Prop} (hw : wp Try.prog (M_extractNodeScan a0 a1) (Ret R) h) : HC Try.prog fn_extractNodeScan (List.map AV.val [.c (.addr a0), .c (.raw a1)]).toArray h R :=
  den_calls hmix Try.func53 (of_decide_eq_true rfl) (by rw [den_extractNodeScan]; exact hw)
def M_lg_Clear (a0 : PA) : M :=
 .store (a0.fst, a0.snd) (.raw (Value.nilFunc)) <|
 .load (a0.fst, a0.snd + 3) (.sl) fun s0 =>
 .guard (((0 : Int) ≤ 0) ∧ ((0 : Int) ≤ (↑s0.snd.snd : Int))) <|
 .store (a0.fst, a0.snd + 3) (.sl (slBase s0.fst s0.snd.snd 0 3) (0) (s0.snd.snd - 0)) <|
 .store (a0.fst, a0.snd + 1) (.int .i64 (0)) <|
 .store (a0.fst, a0.snd + 2) (.int .i64 (0)) <|
 .done .ret []
theorem den_lg_Clear (a0 : PA) : denFn Try.prog Try.f50 [.c (.addr a0)] = M_lg_Clear a0 := by kernel_rfl
theorem hc_lg_Clear (a0 : PA) {h : H} {R : Value → H → Prop} (hw : wp Try.prog (M_lg_Clear a0) (Ret R) h) : HC Try.prog fn_lg_Clear (List.map AV.val [.c (.addr a0)]).toArray h R :=
  den_calls hmix Try.func50 (of_decide_eq_true rfl) (by rw [den_lg_Clear]; exact hw)
def M_lg_Len (a0 : PA) : M :=
 .load (a0.fst, a0.snd + 1) (.int .i64) fun i0 =>
 .done .ret [.c (.int .i64 (i0))]
theorem den_lg_Len (a0 : PA) : denFn Try.prog Try.f21 [.c (.addr a0)] = M_lg_Len a0 := by kernel_rfl
theorem hc_lg_Len (a0 : PA) {h : H} {R : Value → H → Prop} (hw : wp Try.prog (M_lg_Len a0) (Ret R) h) : HC Try.prog fn_lg_Len (List.map AV.val [.c (.addr a0)]).toArray h R :=
  den_calls hmix Try.func21 (of_decide_eq_true rfl) (by rw [den_lg_Len]; exact hw)
def M_lg_Scan (a0 : PA) (a1 : Value) : M :=
 .load (a0.fst, a0.snd + 3) (.sl) fun s0 =>
 .load (a0.fst, a0.snd + 3) (.sl) fun s1 =>
 .guard (((0 : Int) ≤ (↑s1.snd.snd : Int)) ∧ (((↑s1.snd.snd : Int) : Int) ≤ (↑s0.snd.snd : Int))) <|
 .bind (some 0) (.loop [.c (.int .i64)] [.c (.int .i64 (0))] fun y2 =>
 .load (a0.fst, a0.snd + 2) (.int .i64) fun i3 =>
 .ite (decide (y2.fst < i3))
 (.guard (InK IntKind.i64 ((↑(s0.snd.snd - 0) : Int) - y2.fst)) <|
 .guard (InK IntKind.i64 ((↑(s0.snd.snd - 0) : Int) - y2.fst - 1)) <|
 .nonnil (slBase s0.fst s0.snd.snd 0 3) fun p4 =>
 .guard (((0 : Int) ≤ (↑(s0.snd.snd - 0) : Int) - y2.fst - 1) ∧ (((↑(s0.snd.snd - 0) : Int) - y2.fst - 1 : Int) < (↑((↑s1.snd.snd : Int).toNat - 0) : Int))) <|
 .load (p4.fst, p4.snd + mulN ((↑(s0.snd.snd - 0) : Int) - y2.fst - 1).toNat 3) (.int .i64) fun i5 =>
 .load (p4.fst, p4.snd + mulN ((↑(s0.snd.snd - 0) : Int) - y2.fst - 1).toNat 3 + 1) (.int .i64) fun i6 =>
 .load (p4.fst, p4.snd + mulN ((↑(s0.snd.snd - 0) : Int) - y2.fst - 1).toNat 3 + 2) (.ptr) fun q7 =>
 .alloc ty_btree_eitem_pub_greenwood_impl_Item [.int .i64 (0), .int .i64 (0), .ptr none] fun n8 =>
 .store (n8, 0) (.int .i64 (i5)) <|
 .store (n8, 1) (.int .i64 (i6)) <|
 .store (n8, 2) (.ptr (q7)) <|
 .load (n8, 0) (.int .i64) fun i9 =>
 .load (n8, 1) (.int .i64) fun i10 =>
 .callv (a1) [.agg [.int .i64 (i9), .int .i64 (i10)]] false [.c (.bool)] fun r11 =>
 .ite (!r11.fst)
 (.done .ret [])
 (.load (n8, 2) (.ptr) fun q12 =>
 .bind none (.ite (!Option.isNone q12)
 (.load (n8, 2) (.ptr) fun q13 =>
 .call fn_extractNodeScan [.c (.ptr (q13)), .c (.raw (a1))] false [.c (.bool)] fun r14 =>
 .ite (!r14.fst)
 (.done .ret [])
 (.done .normal []))
 (.done .normal [])) [] fun x15 =>
 .guard (InK IntKind.i64 (y2.fst + 1)) <|
 .done .normal [.c (.int .i64 (y2.fst + 1))]))
 (.done (.exit 0) [])) [] fun x16 =>
 .loop [] [] fun y17 =>
 .call fn_lg_pop [.c (.addr a0)] true [.agg [.int .i64, .int .i64, .ptr], .c (.bool)] fun r18 =>
 .alloc ty_btree_eitem_pub_greenwood_impl_Item [.int .i64 (0), .int .i64 (0), .ptr none] fun n19 =>
 .store (n19, 0) (.int .i64 (r18.fst.fst)) <|
 .store (n19, 1) (.int .i64 (r18.fst.snd.fst)) <|
 .store (n19, 2) (.ptr (r18.fst.snd.snd.fst)) <|
 .ite (!r18.snd.fst)
 (.done .ret [])
 (.load (a0.fst, a0.snd + 3) (.sl) fun s20 =>
 .load (a0.fst, a0.snd + 3) (.sl) fun s21 =>
 .guard (((0 : Int) ≤ (↑s21.snd.snd : Int)) ∧ (((↑s21.snd.snd : Int) : Int) ≤ (↑s20.snd.snd : Int))) <|
 .load (a0.fst, a0.snd + 3) (.sl) fun s22 =>
 .load (a0.fst, a0.snd + 2) (.int .i64) fun i23 =>
 .guard (InK IntKind.i64 ((↑s22.snd.snd : Int) - i23)) <|
 .guard (InK IntKind.i64 ((↑s22.snd.snd : Int) - i23 - 1)) <|
 .load (n19, 0) (.int .i64) fun i24 =>
 .load (n19, 1) (.int .i64) fun i25 =>
 .load (n19, 2) (.ptr) fun q26 =>
 .nonnil (slBase s20.fst s20.snd.snd 0 3) fun p27 =>
 .guard (((0 : Int) ≤ (↑s22.snd.snd : Int) - i23 - 1) ∧ (((↑s22.snd.snd : Int) - i23 - 1 : Int) < (↑((↑s21.snd.snd : Int).toNat - 0) : Int))) <|
 .store (p27.fst, p27.snd + mulN ((↑s22.snd.snd : Int) - i23 - 1).toNat 3) (.int .i64 (i24)) <|
 .store (p27.fst, p27.snd + mulN ((↑s22.snd.snd : Int) - i23 - 1).toNat 3 + 1) (.int .i64 (i25)) <|
 .store (p27.fst, p27.snd + mulN ((↑s22.snd.snd : Int) - i23 - 1).toNat 3 + 2) (.ptr (q26)) <|
 .load (a0.fst, a0.snd + 2) (.int .i64) fun i28 =>
 .guard (InK IntKind.i64 (i28 + 1)) <|
 .store (a0.fst, a0.snd + 2) (.int .i64 (i28 + 1)) <|
 .load (n19, 0) (.int .i64) fun i29 =>
 .load (n19, 1) (.int .i64) fun i30 =>
 .callv (a1) [.agg [.int .i64 (i29), .int .i64 (i30)]] false [.c (.bool)] fun r31 =>
 .ite (!r31.fst)
 (.done .ret [])
 (.load (n19, 2) (.ptr) fun q32 =>
 .bind none (.ite (!Option.isNone q32)
 (.load (n19, 2) (.ptr) fun q33 =>
 .call fn_extractNodeScan [.c (.ptr (q33)), .c (.raw (a1))] false [.c (.bool)] fun r34 =>
 .ite (!r34.fst)
 (.done .ret [])
 (.done .normal []))
 (.done .normal [])) [] fun x35 =>
 .done .normal []))
theorem den_lg_Scan (a0 : PA) (a1 : Value) : denFn Try.prog Try.f33 [.c (.addr a0), .c (.raw a1)] = M_lg_Scan a0 a1 := by kernel_rfl
theorem hc_lg_Scan (a0 : PA) (a1 : Value) {h : H} {R : Value → H → Prop} (hw : wp Try.prog (M_lg_Scan a0 a1) (Ret R) h) : HC Try.prog fn_lg_Scan (List.map AV.val [.c (.addr a0), .c (.raw a1)]).toArray h R :=
  den_calls hmix Try.func33 (of_decide_eq_true rfl) (by rw [den_lg_Scan]; exact hw)
def M_lg_append (a0 : PA) (a10 : Int) (a11 : Int) (a2 : Option PA) : M :=
 .alloc ty_impl_Item [.int .i64 (a10), .int .i64 (a11)] fun n0 =>
 .load (a0.fst, a0.snd + 1) (.int .i64) fun i1 =>
 .guard (InK IntKind.i64 (i1 + 1)) <|
 .store (a0.fst, a0.snd + 1) (.int .i64 (i1 + 1)) <|
 .bind none (.ite (!a2.isNone)
 (.load (a0.fst, a0.snd + 1) (.int .i64) fun i2 =>
 .nonnil (a2) fun p3 =>
 .load (p3.fst, p3.snd + 1) (.int .i64) fun i4 =>
 .guard (InK IntKind.i64 (i2 + i4)) <|
 .store (a0.fst, a0.snd + 1) (.int .i64 (i2 + i4)) <|
 .done .normal [])
 (.done .normal [])) [] fun x5 =>
 .load (n0, 0) (.int .i64) fun i6 =>
 .load (n0, 1) (.int .i64) fun i7 =>
 .call fn_lg_push [.c (.addr a0), .agg [.int .i64 (i6), .int .i64 (i7), .ptr (a2)]] true [] fun r8 =>
 .done .ret []
theorem den_lg_append (a0 : PA) (a10 : Int) (a11 : Int) (a2 : Option PA) : denFn Try.prog Try.f52 [.c (.addr a0), .agg [.int .i64 a10, .int .i64 a11], .c (.ptr a2)] = M_lg_append a0 a10 a11 a2 := by kernel_rfl
theorem hc_lg_append (a0 : PA) (a10 : Int) (a11 : Int) (a2 : Option PA) {h : H} {R : Value → H → Prop} (hw : wp Try.prog (M_lg_append a0 a10 a11 a2) (Ret R) h) : HC Try.prog fn_lg_append (List.map AV.val [.c (.addr a0), .agg [.int .i64 a10, .int .i64 a11], .c (.ptr a2)]).toArray h R :=
  den_calls hmix Try.func52 (of_decide_eq_true rfl) (by rw [den_lg_append]; exact hw)
def M_lg_pop (a0 : PA) : M :=
 .alloc ty_btree_eitem_pub_greenwood_impl_Item [.int .i64 (0), .int .i64 (0), .ptr none] fun n0 =>
 .load (a0.fst, a0.snd + 3) (.sl) fun s1 =>
 .ite ((↑s1.snd.fst : Int) == 0)
 (.store (n0, 0) (.int .i64 (0)) <|
 .store (n0, 1) (.int .i64 (0)) <|
 .store (n0, 2) (.ptr none) <|
 .load (n0, 0) (.int .i64) fun i2 =>
 .load (n0, 1) (.int .i64) fun i3 =>
 .load (n0, 2) (.ptr) fun q4 =>
 .done .ret [.agg [.int .i64 (i2), .int .i64 (i3), .ptr (q4)], .c (.ff)])
 (.alloc ty_btree_eitem_pub_greenwood_impl_Item [.int .i64 (0), .int .i64 (0), .ptr none] fun n5 =>
 .load (a0.fst, a0.snd + 3) (.sl) fun s6 =>
 .load (a0.fst, a0.snd + 3) (.sl) fun s7 =>
 .nonnil (s7.fst) fun p8 =>
 .guard (((0 : Int) ≤ 0) ∧ ((0 : Int) < (↑s7.snd.fst : Int))) <|
 .load (p8.fst, p8.snd) (.int .i64) fun i9 =>
 .load (p8.fst, p8.snd + 1) (.int .i64) fun i10 =>
 .load (p8.fst, p8.snd + 2) (.ptr) fun q11 =>
 .load (a0.fst, a0.snd + 3) (.sl) fun s12 =>
 .load (a0.fst, a0.snd + 3) (.sl) fun s13 =>
 .guard (InK IntKind.i64 ((↑s13.snd.fst : Int) - 1)) <|
 .nonnil (s12.fst) fun p14 =>
 .guard (((0 : Int) ≤ (↑s13.snd.fst : Int) - 1) ∧ (((↑s13.snd.fst : Int) - 1 : Int) < (↑s12.snd.fst : Int))) <|
 .load (p14.fst, p14.snd + mulN ((↑s13.snd.fst : Int) - 1).toNat 3) (.int .i64) fun i15 =>
 .load (p14.fst, p14.snd + mulN ((↑s13.snd.fst : Int) - 1).toNat 3 + 1) (.int .i64) fun i16 =>
 .load (p14.fst, p14.snd + mulN ((↑s13.snd.fst : Int) - 1).toNat 3 + 2) (.ptr) fun q17 =>
 .store (n5, 0) (.int .i64 (i9)) <|
 .store (n5, 1) (.int .i64 (i10)) <|
 .store (n5, 2) (.ptr (q11)) <|
 .held (p14.fst, p14.snd + mulN ((↑s13.snd.fst : Int) - 1).toNat 3) (.int .i64 (i15)) <|
 .held (p14.fst, p14.snd + mulN ((↑s13.snd.fst : Int) - 1).toNat 3 + 1) (.int .i64 (i16)) <|
 .held (p14.fst, p14.snd + mulN ((↑s13.snd.fst : Int) - 1).toNat 3 + 2) (.ptr (q17)) <|
 .held (a0.fst, a0.snd + 3) (.sl (s13.fst) (s13.snd.fst) (s13.snd.snd)) <|
 .held (a0.fst, a0.snd + 3) (.sl (s12.fst) (s12.snd.fst) (s12.snd.snd)) <|
 .held (a0.fst, a0.snd + 3) (.sl (s6.fst) (s6.snd.fst) (s6.snd.snd)) <|
 .nonnil (s6.fst) fun p18 =>
 .guard (((0 : Int) ≤ 0) ∧ ((0 : Int) < (↑s6.snd.fst : Int))) <|
 .store (p18.fst, p18.snd) (.int .i64 (i15)) <|
 .store (p18.fst, p18.snd + 1) (.int .i64 (i16)) <|
 .store (p18.fst, p18.snd + 2) (.ptr (q17)) <|
 .load (a0.fst, a0.snd + 3) (.sl) fun s19 =>
 .load (a0.fst, a0.snd + 3) (.sl) fun s20 =>
 .guard (InK IntKind.i64 ((↑s20.snd.fst : Int) - 1)) <|
 .guard (((0 : Int) ≤ (↑s20.snd.fst : Int) - 1) ∧ (((↑s20.snd.fst : Int) - 1 : Int) ≤ (↑s19.snd.snd : Int))) <|
 .store (a0.fst, a0.snd + 3) (.sl (slBase s19.fst s19.snd.snd 0 3) (((↑s20.snd.fst : Int) - 1).toNat - 0) (s19.snd.snd - 0)) <|
 .bind (some 0) (.loop [.c (.int .i64)] [.c (.int .i64 (0))] fun y21 =>
 .guard (InK IntKind.i64 (y21.fst * 2)) <|
 .guard (InK IntKind.i64 (y21.fst * 2 + 1)) <|
 .guard (InK IntKind.i64 (y21.fst * 2)) <|
 .guard (InK IntKind.i64 (y21.fst * 2 + 2)) <|
 .bind none (.load (a0.fst, a0.snd + 3) (.sl) fun s22 =>
 .ite (decide (y21.fst * 2 + 1 < (↑s22.snd.fst : Int)))
 (.load (a0.fst, a0.snd) (.raw) fun v23 =>
 .load (a0.fst, a0.snd + 3) (.sl) fun s24 =>
 .nonnil (s24.fst) fun p25 =>
 .guard (((0 : Int) ≤ y21.fst) ∧ ((y21.fst : Int) < (↑s24.snd.fst : Int))) <|
 .load (p25.fst, p25.snd + mulN (Int.toNat y21.fst) 3) (.int .i64) fun i26 =>
 .load (p25.fst, p25.snd + mulN (Int.toNat y21.fst) 3 + 1) (.int .i64) fun i27 =>
 .load (a0.fst, a0.snd + 3) (.sl) fun s28 =>
 .nonnil (s28.fst) fun p29 =>
 .guard (((0 : Int) ≤ y21.fst * 2 + 1) ∧ ((y21.fst * 2 + 1 : Int) < (↑s28.snd.fst : Int))) <|
 .load (p29.fst, p29.snd + mulN (y21.fst * 2 + 1).toNat 3) (.int .i64) fun i30 =>
 .load (p29.fst, p29.snd + mulN (y21.fst * 2 + 1).toNat 3 + 1) (.int .i64) fun i31 =>
 .callv (v23) [.agg [.int .i64 (i26), .int .i64 (i27)], .agg [.int .i64 (i30), .int .i64 (i31)]] false [.c (.bool)] fun r32 =>
 .done .normal [.c (.bool (!r32.fst))])
 (.done .normal [.c (.ff)])) [.c (.bool)] fun x33 =>
 .bind none (.ite (x33.fst)
 (.done .normal [.c (.int .i64 (y21.fst * 2 + 1))])
 (.done .normal [.c (.int .i64 (y21.fst))])) [.c (.int .i64)] fun x34 =>
 .bind none (.load (a0.fst, a0.snd + 3) (.sl) fun s35 =>
 .ite (decide (y21.fst * 2 + 2 < (↑s35.snd.fst : Int)))
 (.load (a0.fst, a0.snd) (.raw) fun v36 =>
 .load (a0.fst, a0.snd + 3) (.sl) fun s37 =>
 .nonnil (s37.fst) fun p38 =>
 .guard (((0 : Int) ≤ x34.fst) ∧ ((x34.fst : Int) < (↑s37.snd.fst : Int))) <|
 .load (p38.fst, p38.snd + mulN (Int.toNat x34.fst) 3) (.int .i64) fun i39 =>
 .load (p38.fst, p38.snd + mulN (Int.toNat x34.fst) 3 + 1) (.int .i64) fun i40 =>
 .load (a0.fst, a0.snd + 3) (.sl) fun s41 =>
 .nonnil (s41.fst) fun p42 =>
 .guard (((0 : Int) ≤ y21.fst * 2 + 2) ∧ ((y21.fst * 2 + 2 : Int) < (↑s41.snd.fst : Int))) <|
 .load (p42.fst, p42.snd + mulN (y21.fst * 2 + 2).toNat 3) (.int .i64) fun i43 =>
 .load (p42.fst, p42.snd + mulN (y21.fst * 2 + 2).toNat 3 + 1) (.int .i64) fun i44 =>
 .callv (v36) [.agg [.int .i64 (i39), .int .i64 (i40)], .agg [.int .i64 (i43), .int .i64 (i44)]] false [.c (.bool)] fun r45 =>
 .done .normal [.c (.bool (!r45.fst))])
 (.done .normal [.c (.ff)])) [.c (.bool)] fun x46 =>
 .bind none (.ite (x46.fst)
 (.done .normal [.c (.int .i64 (y21.fst * 2 + 2))])
 (.done .normal [.c (.int .i64 (x34.fst))])) [.c (.int .i64)] fun x47 =>
 .ite (x47.fst == y21.fst)
 (.done (.exit 0) [])
 (.load (a0.fst, a0.snd + 3) (.sl) fun s48 =>
 .load (a0.fst, a0.snd + 3) (.sl) fun s49 =>
 .load (a0.fst, a0.snd + 3) (.sl) fun s50 =>
 .nonnil (s50.fst) fun p51 =>
 .guard (((0 : Int) ≤ y21.fst) ∧ ((y21.fst : Int) < (↑s50.snd.fst : Int))) <|
 .load (p51.fst, p51.snd + mulN (Int.toNat y21.fst) 3) (.int .i64) fun i52 =>
 .load (p51.fst, p51.snd + mulN (Int.toNat y21.fst) 3 + 1) (.int .i64) fun i53 =>
 .load (p51.fst, p51.snd + mulN (Int.toNat y21.fst) 3 + 2) (.ptr) fun q54 =>
 .load (a0.fst, a0.snd + 3) (.sl) fun s55 =>
 .nonnil (s55.fst) fun p56 =>
 .guard (((0 : Int) ≤ x47.fst) ∧ ((x47.fst : Int) < (↑s55.snd.fst : Int))) <|
 .load (p56.fst, p56.snd + mulN (Int.toNat x47.fst) 3) (.int .i64) fun i57 =>
 .load (p56.fst, p56.snd + mulN (Int.toNat x47.fst) 3 + 1) (.int .i64) fun i58 =>
 .load (p56.fst, p56.snd + mulN (Int.toNat x47.fst) 3 + 2) (.ptr) fun q59 =>
 .nonnil (s48.fst) fun p60 =>
 .guard (((0 : Int) ≤ x47.fst) ∧ ((x47.fst : Int) < (↑s48.snd.fst : Int))) <|
 .store (p60.fst, p60.snd + mulN (Int.toNat x47.fst) 3) (.int .i64 (i52)) <|
 .store (p60.fst, p60.snd + mulN (Int.toNat x47.fst) 3 + 1) (.int .i64 (i53)) <|
 .store (p60.fst, p60.snd + mulN (Int.toNat x47.fst) 3 + 2) (.ptr (q54)) <|
 .nonnil (s49.fst) fun p61 =>
 .guard (((0 : Int) ≤ y21.fst) ∧ ((y21.fst : Int) < (↑s49.snd.fst : Int))) <|
 .store (p61.fst, p61.snd + mulN (Int.toNat y21.fst) 3) (.int .i64 (i57)) <|
 .store (p61.fst, p61.snd + mulN (Int.toNat y21.fst) 3 + 1) (.int .i64 (i58)) <|
 .store (p61.fst, p61.snd + mulN (Int.toNat y21.fst) 3 + 2) (.ptr (q59)) <|
 .done .normal [.c (.int .i64 (x47.fst))])) [] fun x62 =>
 .load (n5, 0) (.int .i64) fun i63 =>
 .load (n5, 1) (.int .i64) fun i64 =>
 .load (n5, 2) (.ptr) fun q65 =>
 .store (n0, 0) (.int .i64 (i63)) <|
 .store (n0, 1) (.int .i64 (i64)) <|
 .store (n0, 2) (.ptr (q65)) <|
 .load (n0, 0) (.int .i64) fun i66 =>
 .load (n0, 1) (.int .i64) fun i67 =>
 .load (n0, 2) (.ptr) fun q68 =>
 .done .ret [.agg [.int .i64 (i66), .int .i64 (i67), .ptr (q68)], .c (.tt)])
theorem den_lg_pop (a0 : PA) : denFn Try.prog Try.f54 [.c (.addr a0)] = M_lg_pop a0 := by kernel_rfl
theorem hc_lg_pop (a0 : PA) {h : H} {R : Value → H → Prop} (hw : wp Try.prog (M_lg_pop a0) (Ret R) h) : HC Try.prog fn_lg_pop (List.map AV.val [.c (.addr a0)]).toArray h R :=
  den_calls hmix Try.func54 (of_decide_eq_true rfl) (by rw [den_lg_pop]; exact hw)
def M_lg_push (a0 : PA) (a10 : Int) (a11 : Int) (a12 : Option PA) : M :=
 .alloc ty_btree_eitem_pub_greenwood_impl_Item [.int .i64 (a10), .int .i64 (a11), .ptr (a12)] fun n0 =>
 .load (a0.fst, a0.snd + 3) (.sl) fun s1 =>
 .load (n0, 0) (.int .i64) fun i2 =>
 .load (n0, 1) (.int .i64) fun i3 =>
 .load (n0, 2) (.ptr) fun q4 =>
 .alloc ty_btree_eitem_pub_greenwood_impl_Item [.int .i64 (i2), .int .i64 (i3), .ptr (q4)] fun n5 =>
 .held (a0.fst, a0.snd + 3) (.sl (s1.fst) (s1.snd.fst) (s1.snd.snd)) <|
 .append ty_btree_eitem_pub_greenwood_impl_Item 3 24 [.int .i64 (0), .int .i64 (0), .ptr none] ((s1.fst), s1.snd.fst, s1.snd.snd) ((some (n5, 0)), 1, 1) fun s6 =>
 .store (a0.fst, a0.snd + 3) (.sl (s6.fst) (s6.snd.fst) (s6.snd.snd)) <|
 .load (a0.fst, a0.snd + 3) (.sl) fun s7 =>
 .guard (InK IntKind.i64 ((↑s7.snd.fst : Int) - 1)) <|
 .guard (InK IntKind.i64 ((↑s7.snd.fst : Int) - 1 - 1)) <|
 .guard (((2 : Int) ≠ 0) ∧ (InK IntKind.i64 (((↑s7.snd.fst : Int) - 1 - 1).tdiv 2))) <|
 .bind (some 0) (.loop [.c (.int .i64), .c (.int .i64)] [.c (.int .i64 (((↑s7.snd.fst : Int) - 1 - 1).tdiv 2)), .c (.int .i64 ((↑s7.snd.fst : Int) - 1))] fun y8 =>
 .bind none (.ite (y8.snd.fst != 0)
 (.load (a0.fst, a0.snd) (.raw) fun v9 =>
 .load (a0.fst, a0.snd + 3) (.sl) fun s10 =>
 .nonnil (s10.fst) fun p11 =>
 .guard (((0 : Int) ≤ y8.snd.fst) ∧ ((y8.snd.fst : Int) < (↑s10.snd.fst : Int))) <|
 .load (p11.fst, p11.snd + mulN (Int.toNat y8.snd.fst) 3) (.int .i64) fun i12 =>
 .load (p11.fst, p11.snd + mulN (Int.toNat y8.snd.fst) 3 + 1) (.int .i64) fun i13 =>
 .load (a0.fst, a0.snd + 3) (.sl) fun s14 =>
 .nonnil (s14.fst) fun p15 =>
 .guard (((0 : Int) ≤ y8.fst) ∧ ((y8.fst : Int) < (↑s14.snd.fst : Int))) <|
 .load (p15.fst, p15.snd + mulN (Int.toNat y8.fst) 3) (.int .i64) fun i16 =>
 .load (p15.fst, p15.snd + mulN (Int.toNat y8.fst) 3 + 1) (.int .i64) fun i17 =>
 .callv (v9) [.agg [.int .i64 (i12), .int .i64 (i13)], .agg [.int .i64 (i16), .int .i64 (i17)]] false [.c (.bool)] fun r18 =>
 .done .normal [.c (.bool (r18.fst))])
 (.done .normal [.c (.ff)])) [.c (.bool)] fun x19 =>
 .ite (x19.fst)
 (.load (a0.fst, a0.snd + 3) (.sl) fun s20 =>
 .load (a0.fst, a0.snd + 3) (.sl) fun s21 =>
 .load (a0.fst, a0.snd + 3) (.sl) fun s22 =>
 .nonnil (s22.fst) fun p23 =>
 .guard (((0 : Int) ≤ y8.snd.fst) ∧ ((y8.snd.fst : Int) < (↑s22.snd.fst : Int))) <|
 .load (p23.fst, p23.snd + mulN (Int.toNat y8.snd.fst) 3) (.int .i64) fun i24 =>
 .load (p23.fst, p23.snd + mulN (Int.toNat y8.snd.fst) 3 + 1) (.int .i64) fun i25 =>
 .load (p23.fst, p23.snd + mulN (Int.toNat y8.snd.fst) 3 + 2) (.ptr) fun q26 =>
 .load (a0.fst, a0.snd + 3) (.sl) fun s27 =>
 .nonnil (s27.fst) fun p28 =>
 .guard (((0 : Int) ≤ y8.fst) ∧ ((y8.fst : Int) < (↑s27.snd.fst : Int))) <|
 .load (p28.fst, p28.snd + mulN (Int.toNat y8.fst) 3) (.int .i64) fun i29 =>
 .load (p28.fst, p28.snd + mulN (Int.toNat y8.fst) 3 + 1) (.int .i64) fun i30 =>
 .load (p28.fst, p28.snd + mulN (Int.toNat y8.fst) 3 + 2) (.ptr) fun q31 =>
 .nonnil (s20.fst) fun p32 =>
 .guard (((0 : Int) ≤ y8.fst) ∧ ((y8.fst : Int) < (↑s20.snd.fst : Int))) <|
 .store (p32.fst, p32.snd + mulN (Int.toNat y8.fst) 3) (.int .i64 (i24)) <|
 .store (p32.fst, p32.snd + mulN (Int.toNat y8.fst) 3 + 1) (.int .i64 (i25)) <|
 .store (p32.fst, p32.snd + mulN (Int.toNat y8.fst) 3 + 2) (.ptr (q26)) <|
 .nonnil (s21.fst) fun p33 =>
 .guard (((0 : Int) ≤ y8.snd.fst) ∧ ((y8.snd.fst : Int) < (↑s21.snd.fst : Int))) <|
 .store (p33.fst, p33.snd + mulN (Int.toNat y8.snd.fst) 3) (.int .i64 (i29)) <|
 .store (p33.fst, p33.snd + mulN (Int.toNat y8.snd.fst) 3 + 1) (.int .i64 (i30)) <|
 .store (p33.fst, p33.snd + mulN (Int.toNat y8.snd.fst) 3 + 2) (.ptr (q31)) <|
 .guard (InK IntKind.i64 (y8.fst - 1)) <|
 .guard (((2 : Int) ≠ 0) ∧ (InK IntKind.i64 ((y8.fst - 1).tdiv 2))) <|
 .done .normal [.c (.int .i64 ((y8.fst - 1).tdiv 2)), .c (.int .i64 (y8.fst))])
 (.done (.exit 0) [])) [] fun x34 =>
 .done .ret []
theorem den_lg_push (a0 : PA) (a10 : Int) (a11 : Int) (a12 : Option PA) : denFn Try.prog Try.f66 [.c (.addr a0), .agg [.int .i64 a10, .int .i64 a11, .ptr a12]] = M_lg_push a0 a10 a11 a12 := by kernel_rfl
theorem hc_lg_push (a0 : PA) (a10 : Int) (a11 : Int) (a12 : Option PA) {h : H} {R : Value → H → Prop} (hw : wp Try.prog (M_lg_push a0 a10 a11 a12) (Ret R) h) : HC Try.prog fn_lg_push (List.map AV.val [.c (.addr a0), .agg [.int .i64 a10, .int .i64 a11, .ptr a12]]).toArray h R :=
  den_calls hmix Try.func66 (of_decide_eq_true rfl) (by rw [den_lg_push]; exact hw)
def M_tg_DeleteRange (a0 : PA) (a10 : Int) (a11 : Int) (a20 : Int) (a21 : Int) (a3 : Option PA) : M :=
 .alloc ty_impl_Item [.int .i64 (a10), .int .i64 (a11)] fun n0 =>
 .alloc ty_impl_Item [.int .i64 (a20), .int .i64 (a21)] fun n1 =>
 .alloc ty_btree_List_pub_greenwood_impl_Item [.raw (Value.nilFunc), .int .i64 (0), .int .i64 (0), .sl none (0) (0)] fun n2 =>
 .load (n0, 0) (.int .i64) fun i3 =>
 .load (n0, 1) (.int .i64) fun i4 =>
 .load (n1, 0) (.int .i64) fun i5 =>
 .load (n1, 1) (.int .i64) fun i6 =>
 .call fn_tg_DeleteRangeReuse [.c (.addr a0), .agg [.int .i64 (i3), .int .i64 (i4)], .agg [.int .i64 (i5), .int .i64 (i6)], .c (.ptr (a3)), .c (.addr (n2, 0))] false [.agg [.raw, .int .i64, .int .i64, .sl]] fun r7 =>
 .store (n2, 0) (.raw (r7.fst.fst)) <|
 .store (n2, 1) (.int .i64 (r7.fst.snd.fst)) <|
 .store (n2, 2) (.int .i64 (r7.fst.snd.snd.fst)) <|
 .store (n2, 3) (.sl (r7.fst.snd.snd.snd.fst.fst) (r7.fst.snd.snd.snd.fst.snd.fst) (r7.fst.snd.snd.snd.fst.snd.snd)) <|
 .load (n2, 0) (.raw) fun v8 =>
 .load (n2, 1) (.int .i64) fun i9 =>
 .load (n2, 2) (.int .i64) fun i10 =>
 .load (n2, 3) (.sl) fun s11 =>
 .done .ret [.agg [.raw (v8), .int .i64 (i9), .int .i64 (i10), .sl (s11.fst) (s11.snd.fst) (s11.snd.snd)]]
theorem den_tg_DeleteRange (a0 : PA) (a10 : Int) (a11 : Int) (a20 : Int) (a21 : Int) (a3 : Option PA) : denFn Try.prog Try.f18 [.c (.addr a0), .agg [.int .i64 a10, .int .i64 a11], .agg [.int .i64 a20, .int .i64 a21], .c (.ptr a3)] = M_tg_DeleteRange a0 a10 a11 a20 a21 a3 := by kernel_rfl
theorem hc_tg_DeleteRange (a0 : PA) (a10 : Int) (a11 : Int) (a20 : Int) (a21 : Int) (a3 : Option PA) {h : H} {R : Value → H → Prop} (hw : wp Try.prog (M_tg_DeleteRange a0 a10 a11 a20 a21 a3) (Ret R) h) : HC Try.prog fn_tg_DeleteRange (List.map AV.val [.c (.addr a0), .agg [.int .i64 a10, .int .i64 a11], .agg [.int .i64 a20, .int .i64 a21], .c (.ptr a3)]).toArray h R :=
  den_calls hmix Try.func18 (of_decide_eq_true rfl) (by rw [den_tg_DeleteRange]; exact hw)
def M_tg_DeleteRangeReuse (a0 : PA) (a10 : Int) (a11 : Int) (a20 : Int) (a21 : Int) (a3 : Option PA) (a4 : PA) : M :=
 .alloc ty_p_btree_BTreeG_pub_greenwood_impl_Item [.addr a0] fun n0 =>
 .alloc ty_impl_Item [.int .i64 (a10), .int .i64 (a11)] fun n1 =>
 .alloc ty_impl_Item [.int .i64 (a20), .int .i64 (a21)] fun n2 =>
 .alloc ty_btree_List_pub_greenwood_impl_Item [.raw (Value.nilFunc), .int .i64 (0), .int .i64 (0), .sl none (0) (0)] fun n3 =>
 .bind (some 1000) (.load (n0, 0) (.ptr) fun q4 =>
 .call fn_tg_lock [.c (.ptr (q4)), .c (.tt)] false [.c (.bool)] fun r5 =>
 .bind none (.ite (r5.fst)
 (.load (n0, 0) (.ptr) fun q6 =>
 .fail)
 (.done .normal [])) [] fun x7 =>
 .bind none (.ite (a3.isNone)
 (.done .normal [.c (.tt)])
 (.nonnil (a3) fun p8 =>
 .load (p8.fst, p8.snd) (.bool) fun b9 =>
 .done .normal [.c (.bool (!b9))])) [.c (.bool)] fun x10 =>
 .bind none (.ite (!a3.isNone)
 (.nonnil (a3) fun p11 =>
 .load (p11.fst, p11.snd + 1) (.bool) fun b12 =>
 .alloc ty_bool [.ff] fun n13 =>
 .store (n13, 0) (.bool (b12)) <|
 .done .normal [.c (.addr (n13, 0))])
 (.alloc ty_bool [.ff] fun n14 =>
 .store (n14, 0) (.ff) <|
 .done .normal [.c (.addr (n14, 0))])) [.c (.addr)] fun x15 =>
 .bind none (.ite (false)
 (.alloc ty_btree_List_pub_greenwood_impl_Item [.raw (Value.nilFunc), .int .i64 (0), .int .i64 (0), .sl none (0) (0)] fun n16 =>
 .done .normal [.c (.addr (n16, 0))])
 (.done .normal [.c (.addr a4)])) [.c (.ptr)] fun x17 =>
 .call fn_lg_Clear [.c (.ptr (x17.fst))] true [] fun r18 =>
 .bind none (.ite (x10.fst)
 (.load (n0, 0) (.ptr) fun q19 =>
 .nonnil (q19) fun p20 =>
 .load (p20.fst, p20.snd + 6) (.raw) fun v21 =>
 .nonnil (x17.fst) fun p22 =>
 .store (p22.fst, p22.snd) (.raw (v21)) <|
 .done .normal [])
 (.done .normal [])) [] fun x23 =>
 .alloc ty_btree_PathHint [.ff, .ff, .ff, .ff, .ff, .ff, .ff, .ff, .int .u8 (0), .int .u8 (0), .int .u8 (0), .int .u8 (0), .int .u8 (0), .int .u8 (0), .int .u8 (0), .int .u8 (0)] fun n24 =>
 .load (n1, 0) (.int .i64) fun i25 =>
 .load (n1, 1) (.int .i64) fun i26 =>
 .alloc ty_impl_Item [.int .i64 (0), .int .i64 (0)] fun n27 =>
 .store (n27, 0) (.int .i64 (i25)) <|
 .store (n27, 1) (.int .i64 (i26)) <|
 .done .normal [.c (.sl none (0) (0)), .c (.addr (n27, 0)), .c (.addr (n24, 0)), .c (.raw (Value.func (Fn.func fn_tg_DeleteRangeReuse_1) (List.map AV.val []).toArray (List.map AV.val [(Sh.c Sh1.addr).mk x15.fst, AV.c (Cell.addr (n0, 0)), AV.c (Cell.addr (n2, 0))]).toArray)), .c (.ptr (x17.fst)), .c (.bool (x10.fst))]) [.c (.sl), .c (.addr), .c (.addr), .c (.raw), .c (.ptr), .c (.bool)] fun x28 =>
 .loop [.c (.sl), .c (.addr), .c (.addr), .c (.raw), .c (.ptr), .c (.bool)] [.c (.sl (x28.fst.fst) (x28.fst.snd.fst) (x28.fst.snd.snd)), .c (.addr x28.snd.fst), .c (.addr x28.snd.snd.fst), .c (.raw (x28.snd.snd.snd.fst)), .c (.ptr (x28.snd.snd.snd.snd.fst)), .c (.bool (x28.snd.snd.snd.snd.snd.fst))] fun y29 =>
 .bind (some 1000) (.load (n0, 0) (.ptr) fun q30 =>
 .nonnil (q30) fun p31 =>
 .load (p31.fst, p31.snd + 2) (.ptr) fun q32 =>
 .ite (Option.isNone q32)
 (.nonnil (y29.snd.snd.snd.snd.fst) fun p33 =>
 .load p33 (.raw) fun v34 =>
 .load (p33.fst, p33.snd + 1) (.int .i64) fun i35 =>
 .load (p33.fst, p33.snd + 2) (.int .i64) fun i36 =>
 .load (p33.fst, p33.snd + 3) (.sl) fun s37 =>
 .store (n3, 0) (.raw (v34)) <|
 .store (n3, 1) (.int .i64 (i35)) <|
 .store (n3, 2) (.int .i64 (i36)) <|
 .store (n3, 3) (.sl (s37.fst) (s37.snd.fst) (s37.snd.snd)) <|
 .load (n3, 0) (.raw) fun v38 =>
 .load (n3, 1) (.int .i64) fun i39 =>
 .load (n3, 2) (.int .i64) fun i40 =>
 .load (n3, 3) (.sl) fun s41 =>
 .done .ret [.agg [.raw (v38), .int .i64 (i39), .int .i64 (i40), .sl (s41.fst) (s41.snd.fst) (s41.snd.snd)]])
 (.load (n0, 0) (.ptr) fun q42 =>
 .load (n0, 0) (.ptr) fun q43 =>
 .nonnil (q43) fun p44 =>
 .call fn_tg_isoLoad [.c (.ptr (q42)), .c (.addr (p44.fst, p44.snd + 2)), .c (.tt)] false [.c (.ptr)] fun r45 =>
 .alloc ty_btree_stackItem_pub_greenwood_impl_Item_110 [.ptr (r45.fst), .int .i64 (0)] fun n46 =>
 .append ty_btree_stackItem_pub_greenwood_impl_Item_110 2 16 [.ptr none, .int .i64 (0)] ((y29.fst.fst), y29.fst.snd.fst, y29.fst.snd.snd) ((some (n46, 0)), 1, 1) fun s47 =>
 .loop [.c (.ptr), .c (.sl)] [.c (.ptr (r45.fst)), .c (.sl (s47.fst) (s47.snd.fst) (s47.snd.snd))] fun y48 =>
 .bind (some 1) (.bind (some 1001) (.load (n0, 0) (.ptr) fun q49 =>
 .load y29.snd.fst (.int .i64) fun i50 =>
 .load (y29.snd.fst.fst, y29.snd.fst.snd + 1) (.int .i64) fun i51 =>
 .guard (InK IntKind.i64 ((↑y48.snd.fst.snd.fst : Int) - 1)) <|
 .call fn_tg_find [.c (.ptr (q49)), .c (.ptr (y48.fst)), .agg [.int .i64 (i50), .int .i64 (i51)], .c (.addr y29.snd.snd.fst), .c (.int .i64 ((↑y48.snd.fst.snd.fst : Int) - 1))] true [.c (.int .i64), .c (.bool)] fun r52 =>
 .done .normal [.c (.ptr (y48.fst)), .c (.sl (y48.snd.fst.fst) (y48.snd.fst.snd.fst) (y48.snd.fst.snd.snd)), .c (.bool (r52.snd.fst)), .c (.int .i64 (r52.fst))]) [.c (.ptr), .c (.sl), .c (.bool), .c (.int .i64)] fun x53 =>
 .loop [.c (.ptr), .c (.sl), .c (.bool), .c (.int .i64)] [.c (.ptr (x53.fst)), .c (.sl (x53.snd.fst.fst) (x53.snd.fst.snd.fst) (x53.snd.fst.snd.snd)), .c (.bool (x53.snd.snd.fst)), .c (.int .i64 (x53.snd.snd.snd.fst))] fun y54 =>
 .bind (some 1001) (.nonnil (y54.fst) fun p55 =>
 .load (p55.fst, p55.snd + 3) (.ptr) fun q56 =>
 .ite (!Option.isNone q56)
 (.bind none (.nonnil (y54.fst) fun p57 =>
 .load (p57.fst, p57.snd + 2) (.sl) fun s58 =>
 .guard (InK IntKind.i64 ((↑s58.snd.fst : Int) - 1)) <|
 .ite (decide (y54.snd.snd.snd.fst < (↑s58.snd.fst : Int) - 1))
 (.nonnil (y54.fst) fun p59 =>
 .load (p59.fst, p59.snd + 2) (.sl) fun s60 =>
 .load (n0, 0) (.ptr) fun q61 =>
 .nonnil (q61) fun p62 =>
 .load (p62.fst, p62.snd + 10) (.int .i64) fun i63 =>
 .ite (decide ((↑s60.snd.fst : Int) > i63))
 (.load (n0, 0) (.ptr) fun q64 =>
 .nonnil (q64) fun p65 =>
 .load (p65.fst, p65.snd + 6) (.raw) fun v66 =>
 .nonnil (y54.fst) fun p67 =>
 .load (p67.fst, p67.snd + 2) (.sl) fun s68 =>
 .guard (InK IntKind.i64 (y54.snd.snd.snd.fst + 1)) <|
 .nonnil (s68.fst) fun p69 =>
 .guard (((0 : Int) ≤ y54.snd.snd.snd.fst + 1) ∧ ((y54.snd.snd.snd.fst + 1 : Int) < (↑s68.snd.fst : Int))) <|
 .load (p69.fst, p69.snd + mulN (y54.snd.snd.snd.fst + 1).toNat 2) (.int .i64) fun i70 =>
 .load (p69.fst, p69.snd + mulN (y54.snd.snd.snd.fst + 1).toNat 2 + 1) (.int .i64) fun i71 =>
 .load (n2, 0) (.int .i64) fun i72 =>
 .load (n2, 1) (.int .i64) fun i73 =>
 .callv (v66) [.agg [.int .i64 (i70), .int .i64 (i71)], .agg [.int .i64 (i72), .int .i64 (i73)]] false [.c (.bool)] fun r74 =>
 .done .normal [.c (.bool (r74.fst))])
 (.nonnil (y54.fst) fun p75 =>
 .load (p75.fst, p75.snd + 2) (.sl) fun s76 =>
 .ite (decide ((↑s76.snd.fst : Int) > 1))
 (.ite ((↑y54.snd.fst.snd.fst : Int) == 1)
 (.load (n0, 0) (.ptr) fun q77 =>
 .nonnil (q77) fun p78 =>
 .load (p78.fst, p78.snd + 6) (.raw) fun v79 =>
 .nonnil (y54.fst) fun p80 =>
 .load (p80.fst, p80.snd + 2) (.sl) fun s81 =>
 .guard (InK IntKind.i64 (y54.snd.snd.snd.fst + 1)) <|
 .nonnil (s81.fst) fun p82 =>
 .guard (((0 : Int) ≤ y54.snd.snd.snd.fst + 1) ∧ ((y54.snd.snd.snd.fst + 1 : Int) < (↑s81.snd.fst : Int))) <|
 .load (p82.fst, p82.snd + mulN (y54.snd.snd.snd.fst + 1).toNat 2) (.int .i64) fun i83 =>
 .load (p82.fst, p82.snd + mulN (y54.snd.snd.snd.fst + 1).toNat 2 + 1) (.int .i64) fun i84 =>
 .load (n2, 0) (.int .i64) fun i85 =>
 .load (n2, 1) (.int .i64) fun i86 =>
 .callv (v79) [.agg [.int .i64 (i83), .int .i64 (i84)], .agg [.int .i64 (i85), .int .i64 (i86)]] false [.c (.bool)] fun r87 =>
 .done .normal [.c (.bool (r87.fst))])
 (.done .normal [.c (.ff)]))
 (.done .normal [.c (.ff)])))
 (.done .normal [.c (.ff)])) [.c (.bool)] fun x88 =>
 .ite (x88.fst)
 (.nonnil (y54.fst) fun p89 =>
 .load (p89.fst, p89.snd + 2) (.sl) fun s90 =>
 .nonnil (s90.fst) fun p91 =>
 .guard (((0 : Int) ≤ y54.snd.snd.snd.fst) ∧ ((y54.snd.snd.snd.fst : Int) < (↑s90.snd.fst : Int))) <|
 .load (p91.fst, p91.snd + mulN (Int.toNat y54.snd.snd.snd.fst) 2) (.int .i64) fun i92 =>
 .load (p91.fst, p91.snd + mulN (Int.toNat y54.snd.snd.snd.fst) 2 + 1) (.int .i64) fun i93 =>
 .alloc ty_impl_Item [.int .i64 (0), .int .i64 (0)] fun n94 =>
 .store (n94, 0) (.int .i64 (i92)) <|
 .store (n94, 1) (.int .i64 (i93)) <|
 .nonnil (y54.fst) fun p95 =>
 .load (p95.fst, p95.snd + 2) (.sl) fun s96 =>
 .guard (((0 : Int) ≤ y54.snd.snd.snd.fst) ∧ ((y54.snd.snd.snd.fst : Int) ≤ (↑s96.snd.fst : Int))) <|
 .nonnil (y54.fst) fun p97 =>
 .load (p97.fst, p97.snd + 2) (.sl) fun s98 =>
 .guard (InK IntKind.i64 (y54.snd.snd.snd.fst + 1)) <|
 .guard (((0 : Int) ≤ y54.snd.snd.snd.fst + 1) ∧ ((y54.snd.snd.snd.fst + 1 : Int) ≤ (↑s98.snd.fst : Int))) <|
 .copy 2 ((slBase s96.fst s96.snd.snd (Int.toNat y54.snd.snd.snd.fst) 2), s96.snd.fst - Int.toNat y54.snd.snd.snd.fst, s96.snd.snd - Int.toNat y54.snd.snd.snd.fst) ((slBase s98.fst s98.snd.snd (y54.snd.snd.snd.fst + 1).toNat 2), s98.snd.fst - (y54.snd.snd.snd.fst + 1).toNat, s98.snd.snd - (y54.snd.snd.snd.fst + 1).toNat) fun m99 =>
 .nonnil (y54.fst) fun p100 =>
 .load (p100.fst, p100.snd + 2) (.sl) fun s101 =>
 .nonnil (y54.fst) fun p102 =>
 .load (p102.fst, p102.snd + 2) (.sl) fun s103 =>
 .guard (InK IntKind.i64 ((↑s103.snd.fst : Int) - 1)) <|
 .load (n0, 0) (.ptr) fun q104 =>
 .nonnil (q104) fun p105 =>
 .load (p105.fst, p105.snd + 7) (.int .i64) fun i106 =>
 .load (p105.fst, p105.snd + 8) (.int .i64) fun i107 =>
 .nonnil (s101.fst) fun p108 =>
 .guard (((0 : Int) ≤ (↑s103.snd.fst : Int) - 1) ∧ (((↑s103.snd.fst : Int) - 1 : Int) < (↑s101.snd.fst : Int))) <|
 .store (p108.fst, p108.snd + mulN ((↑s103.snd.fst : Int) - 1).toNat 2) (.int .i64 (i106)) <|
 .store (p108.fst, p108.snd + mulN ((↑s103.snd.fst : Int) - 1).toNat 2 + 1) (.int .i64 (i107)) <|
 .nonnil (y54.fst) fun p109 =>
 .load (p109.fst, p109.snd + 2) (.sl) fun s110 =>
 .nonnil (y54.fst) fun p111 =>
 .load (p111.fst, p111.snd + 2) (.sl) fun s112 =>
 .guard (InK IntKind.i64 ((↑s112.snd.fst : Int) - 1)) <|
 .guard (((0 : Int) ≤ (↑s112.snd.fst : Int) - 1) ∧ (((↑s112.snd.fst : Int) - 1 : Int) ≤ (↑s110.snd.snd : Int))) <|
 .nonnil (y54.fst) fun p113 =>
 .store (p113.fst, p113.snd + 2) (.sl (slBase s110.fst s110.snd.snd 0 2) (((↑s112.snd.fst : Int) - 1).toNat - 0) (s110.snd.snd - 0)) <|
 .nonnil (y54.fst) fun p114 =>
 .load (p114.fst, p114.snd + 3) (.ptr) fun q115 =>
 .nonnil (q115) fun p116 =>
 .load p116 (.sl) fun s117 =>
 .guard (InK IntKind.i64 (y54.snd.snd.snd.fst + 1)) <|
 .nonnil (s117.fst) fun p118 =>
 .guard (((0 : Int) ≤ y54.snd.snd.snd.fst + 1) ∧ ((y54.snd.snd.snd.fst + 1 : Int) < (↑s117.snd.fst : Int))) <|
 .load (p118.fst, p118.snd + (y54.snd.snd.snd.fst + 1).toNat) (.ptr) fun q119 =>
 .nonnil (y54.fst) fun p120 =>
 .load (p120.fst, p120.snd + 3) (.ptr) fun q121 =>
 .nonnil (q121) fun p122 =>
 .load p122 (.sl) fun s123 =>
 .guard (InK IntKind.i64 (y54.snd.snd.snd.fst + 1)) <|
 .guard (((0 : Int) ≤ y54.snd.snd.snd.fst + 1) ∧ ((y54.snd.snd.snd.fst + 1 : Int) ≤ (↑s123.snd.fst : Int))) <|
 .nonnil (y54.fst) fun p124 =>
 .load (p124.fst, p124.snd + 3) (.ptr) fun q125 =>
 .nonnil (q125) fun p126 =>
 .load p126 (.sl) fun s127 =>
 .guard (InK IntKind.i64 (y54.snd.snd.snd.fst + 2)) <|
 .guard (((0 : Int) ≤ y54.snd.snd.snd.fst + 2) ∧ ((y54.snd.snd.snd.fst + 2 : Int) ≤ (↑s127.snd.fst : Int))) <|
 .copy 1 ((slBase s123.fst s123.snd.snd (y54.snd.snd.snd.fst + 1).toNat 1), s123.snd.fst - (y54.snd.snd.snd.fst + 1).toNat, s123.snd.snd - (y54.snd.snd.snd.fst + 1).toNat) ((slBase s127.fst s127.snd.snd (y54.snd.snd.snd.fst + 2).toNat 1), s127.snd.fst - (y54.snd.snd.snd.fst + 2).toNat, s127.snd.snd - (y54.snd.snd.snd.fst + 2).toNat) fun m128 =>
 .nonnil (y54.fst) fun p129 =>
 .load (p129.fst, p129.snd + 3) (.ptr) fun q130 =>
 .nonnil (q130) fun p131 =>
 .load p131 (.sl) fun s132 =>
 .nonnil (y54.fst) fun p133 =>
 .load (p133.fst, p133.snd + 3) (.ptr) fun q134 =>
 .nonnil (q134) fun p135 =>
 .load p135 (.sl) fun s136 =>
 .guard (InK IntKind.i64 ((↑s136.snd.fst : Int) - 1)) <|
 .nonnil (s132.fst) fun p137 =>
 .guard (((0 : Int) ≤ (↑s136.snd.fst : Int) - 1) ∧ (((↑s136.snd.fst : Int) - 1 : Int) < (↑s132.snd.fst : Int))) <|
 .store (p137.fst, p137.snd + ((↑s136.snd.fst : Int) - 1).toNat) (.ptr none) <|
 .nonnil (y54.fst) fun p138 =>
 .load (p138.fst, p138.snd + 3) (.ptr) fun q139 =>
 .nonnil (y54.fst) fun p140 =>
 .load (p140.fst, p140.snd + 3) (.ptr) fun q141 =>
 .nonnil (q141) fun p142 =>
 .load p142 (.sl) fun s143 =>
 .nonnil (y54.fst) fun p144 =>
 .load (p144.fst, p144.snd + 3) (.ptr) fun q145 =>
 .nonnil (q145) fun p146 =>
 .load p146 (.sl) fun s147 =>
 .guard (InK IntKind.i64 ((↑s147.snd.fst : Int) - 1)) <|
 .guard (((0 : Int) ≤ (↑s147.snd.fst : Int) - 1) ∧ (((↑s147.snd.fst : Int) - 1 : Int) ≤ (↑s143.snd.snd : Int))) <|
 .nonnil (q139) fun p148 =>
 .store p148 (.sl (slBase s143.fst s143.snd.snd 0 1) (((↑s147.snd.fst : Int) - 1).toNat - 0) (s143.snd.snd - 0)) <|
 .bind (some 2) (.loop [.c (.int .i64)] [.c (.int .i64 (0))] fun y149 =>
 .ite (decide (y149.fst < (↑y54.snd.fst.snd.fst : Int)))
 (.nonnil (y54.snd.fst.fst) fun p150 =>
 .guard (((0 : Int) ≤ y149.fst) ∧ ((y149.fst : Int) < (↑y54.snd.fst.snd.fst : Int))) <|
 .load (p150.fst, p150.snd + mulN (Int.toNat y149.fst) 2) (.ptr) fun q151 =>
 .nonnil (q151) fun p152 =>
 .load (p152.fst, p152.snd + 1) (.int .i64) fun i153 =>
 .nonnil (q119) fun p154 =>
 .load (p154.fst, p154.snd + 1) (.int .i64) fun i155 =>
 .guard (InK IntKind.i64 (i155 + 1)) <|
 .guard (InK IntKind.i64 (i153 - (i155 + 1))) <|
 .nonnil (q151) fun p156 =>
 .store (p156.fst, p156.snd + 1) (.int .i64 (i153 - (i155 + 1))) <|
 .guard (InK IntKind.i64 (y149.fst + 1)) <|
 .done .normal [.c (.int .i64 (y149.fst + 1))])
 (.done (.exit 2) [])) [] fun x157 =>
 .load (n0, 0) (.ptr) fun q158 =>
 .nonnil (q158) fun p159 =>
 .load (p159.fst, p159.snd + 3) (.int .i64) fun i160 =>
 .nonnil (q119) fun p161 =>
 .load (p161.fst, p161.snd + 1) (.int .i64) fun i162 =>
 .guard (InK IntKind.i64 (i162 + 1)) <|
 .guard (InK IntKind.i64 (i160 - (i162 + 1))) <|
 .nonnil (q158) fun p163 =>
 .store (p163.fst, p163.snd + 3) (.int .i64 (i160 - (i162 + 1))) <|
 .bind none (.ite (y29.snd.snd.snd.snd.snd.fst)
 (.load (n94, 0) (.int .i64) fun i164 =>
 .load (n94, 1) (.int .i64) fun i165 =>
 .call fn_lg_append [.c (.ptr (y29.snd.snd.snd.snd.fst)), .agg [.int .i64 (i164), .int .i64 (i165)], .c (.ptr (q119))] true [] fun r166 =>
 .done .normal [])
 (.done .normal [])) [] fun x167 =>
 .ite (y54.snd.snd.fst)
 (.done (.exit 1001) [.c (.ptr (y54.fst)), .c (.sl (y54.snd.fst.fst) (y54.snd.fst.snd.fst) (y54.snd.fst.snd.snd)), .c (.bool (y54.snd.snd.fst)), .c (.int .i64 (y54.snd.snd.snd.fst))])
 (.done (.exit 1) [.c (.ptr (y54.fst)), .c (.sl (y54.snd.fst.fst) (y54.snd.fst.snd.fst) (y54.snd.fst.snd.snd))]))
 (.ite (y54.snd.snd.fst)
 (.nonnil (y54.fst) fun p168 =>
 .load (p168.fst, p168.snd + 2) (.sl) fun s169 =>
 .nonnil (s169.fst) fun p170 =>
 .guard (((0 : Int) ≤ y54.snd.snd.snd.fst) ∧ ((y54.snd.snd.snd.fst : Int) < (↑s169.snd.fst : Int))) <|
 .load (p170.fst, p170.snd + mulN (Int.toNat y54.snd.snd.snd.fst) 2) (.int .i64) fun i171 =>
 .load (p170.fst, p170.snd + mulN (Int.toNat y54.snd.snd.snd.fst) 2 + 1) (.int .i64) fun i172 =>
 .callv (y29.snd.snd.snd.fst) [.agg [.int .i64 (i171), .int .i64 (i172)]] false [.c (.bool)] fun r173 =>
 .ite (r173.fst)
 (.nonnil (y29.snd.snd.snd.snd.fst) fun p174 =>
 .load p174 (.raw) fun v175 =>
 .load (p174.fst, p174.snd + 1) (.int .i64) fun i176 =>
 .load (p174.fst, p174.snd + 2) (.int .i64) fun i177 =>
 .load (p174.fst, p174.snd + 3) (.sl) fun s178 =>
 .store (n3, 0) (.raw (v175)) <|
 .store (n3, 1) (.int .i64 (i176)) <|
 .store (n3, 2) (.int .i64 (i177)) <|
 .store (n3, 3) (.sl (s178.fst) (s178.snd.fst) (s178.snd.snd)) <|
 .load (n3, 0) (.raw) fun v179 =>
 .load (n3, 1) (.int .i64) fun i180 =>
 .load (n3, 2) (.int .i64) fun i181 =>
 .load (n3, 3) (.sl) fun s182 =>
 .done .ret [.agg [.raw (v179), .int .i64 (i180), .int .i64 (i181), .sl (s182.fst) (s182.snd.fst) (s182.snd.snd)]])
 (.nonnil (y54.fst) fun p183 =>
 .load (p183.fst, p183.snd + 2) (.sl) fun s184 =>
 .nonnil (s184.fst) fun p185 =>
 .guard (((0 : Int) ≤ y54.snd.snd.snd.fst) ∧ ((y54.snd.snd.snd.fst : Int) < (↑s184.snd.fst : Int))) <|
 .load (p185.fst, p185.snd + mulN (Int.toNat y54.snd.snd.snd.fst) 2) (.int .i64) fun i186 =>
 .load (p185.fst, p185.snd + mulN (Int.toNat y54.snd.snd.snd.fst) 2 + 1) (.int .i64) fun i187 =>
 .store y29.snd.fst (.int .i64 (i186)) <|
 .store (y29.snd.fst.fst, y29.snd.fst.snd + 1) (.int .i64 (i187)) <|
 .bind none (.ite (y29.snd.snd.snd.snd.snd.fst)
 (.nonnil (y54.fst) fun p188 =>
 .load (p188.fst, p188.snd + 2) (.sl) fun s189 =>
 .nonnil (s189.fst) fun p190 =>
 .guard (((0 : Int) ≤ y54.snd.snd.snd.fst) ∧ ((y54.snd.snd.snd.fst : Int) < (↑s189.snd.fst : Int))) <|
 .load (p190.fst, p190.snd + mulN (Int.toNat y54.snd.snd.snd.fst) 2) (.int .i64) fun i191 =>
 .load (p190.fst, p190.snd + mulN (Int.toNat y54.snd.snd.snd.fst) 2 + 1) (.int .i64) fun i192 =>
 .call fn_lg_append [.c (.ptr (y29.snd.snd.snd.snd.fst)), .agg [.int .i64 (i191), .int .i64 (i192)], .c (.ptr none)] true [] fun r193 =>
 .done .normal [])
 (.done .normal [])) [] fun x194 =>
 .load (n0, 0) (.ptr) fun q195 =>
 .nonnil (y54.fst) fun p196 =>
 .load (p196.fst, p196.snd + 2) (.sl) fun s197 =>
 .nonnil (s197.fst) fun p198 =>
 .guard (((0 : Int) ≤ y54.snd.snd.snd.fst) ∧ ((y54.snd.snd.snd.fst : Int) < (↑s197.snd.fst : Int))) <|
 .load (p198.fst, p198.snd + mulN (Int.toNat y54.snd.snd.snd.fst) 2) (.int .i64) fun i199 =>
 .load (p198.fst, p198.snd + mulN (Int.toNat y54.snd.snd.snd.fst) 2 + 1) (.int .i64) fun i200 =>
 .call fn_tg_deleteHint [.c (.ptr (q195)), .agg [.int .i64 (i199), .int .i64 (i200)], .c (.addr y29.snd.snd.fst)] true [.agg [.int .i64, .int .i64], .c (.bool)] fun r201 =>
 .guard (((0 : Int) ≤ 0) ∧ ((0 : Int) ≤ (↑y54.snd.fst.snd.snd : Int))) <|
 .done (.exit 1000) [.c (.sl (slBase y54.snd.fst.fst y54.snd.fst.snd.snd 0 2) (0) (y54.snd.fst.snd.snd - 0)), .c (.addr y29.snd.fst), .c (.addr y29.snd.snd.fst), .c (.raw (y29.snd.snd.snd.fst)), .c (.ptr (y29.snd.snd.snd.snd.fst)), .c (.bool (y29.snd.snd.snd.snd.snd.fst))]))
 (.load (n0, 0) (.ptr) fun q202 =>
 .nonnil (y54.fst) fun p203 =>
 .load (p203.fst, p203.snd + 3) (.ptr) fun q204 =>
 .nonnil (q204) fun p205 =>
 .load p205 (.sl) fun s206 =>
 .nonnil (s206.fst) fun p207 =>
 .guard (((0 : Int) ≤ y54.snd.snd.snd.fst) ∧ ((y54.snd.snd.snd.fst : Int) < (↑s206.snd.fst : Int))) <|
 .call fn_tg_isoLoad [.c (.ptr (q202)), .c (.addr (p207.fst, p207.snd + Int.toNat y54.snd.snd.snd.fst)), .c (.tt)] false [.c (.ptr)] fun r208 =>
 .alloc ty_btree_stackItem_pub_greenwood_impl_Item_110 [.ptr (r208.fst), .int .i64 (y54.snd.snd.snd.fst)] fun n209 =>
 .append ty_btree_stackItem_pub_greenwood_impl_Item_110 2 16 [.ptr none, .int .i64 (0)] ((y54.snd.fst.fst), y54.snd.fst.snd.fst, y54.snd.fst.snd.snd) ((some (n209, 0)), 1, 1) fun s210 =>
 .done (.exit 1) [.c (.ptr (r208.fst)), .c (.sl (s210.fst) (s210.snd.fst) (s210.snd.snd))])))
 (.nonnil (y54.fst) fun p211 =>
 .load (p211.fst, p211.snd + 2) (.sl) fun s212 =>
 .guard (InK IntKind.i64 ((↑s212.snd.fst : Int) - y54.snd.snd.snd.fst)) <|
 .load (n0, 0) (.ptr) fun q213 =>
 .nonnil (q213) fun p214 =>
 .load (p214.fst, p214.snd + 10) (.int .i64) fun i215 =>
 .guard (InK IntKind.i64 ((↑s212.snd.fst : Int) - y54.snd.snd.snd.fst - i215)) <|
 .bind none (.ite (decide ((↑s212.snd.fst : Int) - y54.snd.snd.snd.fst - i215 > 1))
 (.bind (some 4) (.loop [.c (.int .i64), .c (.bool)] [.c (.int .i64 (0)), .c (.ff)] fun y216 =>
 .ite (decide (y216.fst < (↑s212.snd.fst : Int) - y54.snd.snd.snd.fst - i215))
 (.nonnil (y54.fst) fun p217 =>
 .load (p217.fst, p217.snd + 2) (.sl) fun s218 =>
 .guard (InK IntKind.i64 (y54.snd.snd.snd.fst + y216.fst)) <|
 .nonnil (s218.fst) fun p219 =>
 .guard (((0 : Int) ≤ y54.snd.snd.snd.fst + y216.fst) ∧ ((y54.snd.snd.snd.fst + y216.fst : Int) < (↑s218.snd.fst : Int))) <|
 .load (p219.fst, p219.snd + mulN (y54.snd.snd.snd.fst + y216.fst).toNat 2) (.int .i64) fun i220 =>
 .load (p219.fst, p219.snd + mulN (y54.snd.snd.snd.fst + y216.fst).toNat 2 + 1) (.int .i64) fun i221 =>
 .callv (y29.snd.snd.snd.fst) [.agg [.int .i64 (i220), .int .i64 (i221)]] false [.c (.bool)] fun r222 =>
 .ite (r222.fst)
 (.done (.exit 4) [.c (.int .i64 (y216.fst)), .c (.bool (r222.fst))])
 (.bind none (.ite (y29.snd.snd.snd.snd.snd.fst)
 (.nonnil (y54.fst) fun p223 =>
 .load (p223.fst, p223.snd + 2) (.sl) fun s224 =>
 .guard (InK IntKind.i64 (y54.snd.snd.snd.fst + y216.fst)) <|
 .nonnil (s224.fst) fun p225 =>
 .guard (((0 : Int) ≤ y54.snd.snd.snd.fst + y216.fst) ∧ ((y54.snd.snd.snd.fst + y216.fst : Int) < (↑s224.snd.fst : Int))) <|
 .load (p225.fst, p225.snd + mulN (y54.snd.snd.snd.fst + y216.fst).toNat 2) (.int .i64) fun i226 =>
 .load (p225.fst, p225.snd + mulN (y54.snd.snd.snd.fst + y216.fst).toNat 2 + 1) (.int .i64) fun i227 =>
 .call fn_lg_append [.c (.ptr (y29.snd.snd.snd.snd.fst)), .agg [.int .i64 (i226), .int .i64 (i227)], .c (.ptr none)] true [] fun r228 =>
 .done .normal [])
 (.done .normal [])) [] fun x229 =>
 .guard (InK IntKind.i64 (y216.fst + 1)) <|
 .done .normal [.c (.int .i64 (y216.fst + 1)), .c (.bool (r222.fst))]))
 (.done (.exit 4) [.c (.int .i64 (y216.fst)), .c (.bool (y216.snd.fst))])) [.c (.int .i64), .c (.bool)] fun x230 =>
 .nonnil (y54.fst) fun p231 =>
 .load (p231.fst, p231.snd + 2) (.sl) fun s232 =>
 .guard (((0 : Int) ≤ y54.snd.snd.snd.fst) ∧ ((y54.snd.snd.snd.fst : Int) ≤ (↑s232.snd.fst : Int))) <|
 .nonnil (y54.fst) fun p233 =>
 .load (p233.fst, p233.snd + 2) (.sl) fun s234 =>
 .guard (InK IntKind.i64 (y54.snd.snd.snd.fst + x230.fst)) <|
 .guard (((0 : Int) ≤ y54.snd.snd.snd.fst + x230.fst) ∧ ((y54.snd.snd.snd.fst + x230.fst : Int) ≤ (↑s234.snd.fst : Int))) <|
 .copy 2 ((slBase s232.fst s232.snd.snd (Int.toNat y54.snd.snd.snd.fst) 2), s232.snd.fst - Int.toNat y54.snd.snd.snd.fst, s232.snd.snd - Int.toNat y54.snd.snd.snd.fst) ((slBase s234.fst s234.snd.snd (y54.snd.snd.snd.fst + x230.fst).toNat 2), s234.snd.fst - (y54.snd.snd.snd.fst + x230.fst).toNat, s234.snd.snd - (y54.snd.snd.snd.fst + x230.fst).toNat) fun m235 =>
 .nonnil (y54.fst) fun p236 =>
 .load (p236.fst, p236.snd + 2) (.sl) fun s237 =>
 .guard (InK IntKind.i64 ((↑s237.snd.fst : Int) - x230.fst)) <|
 .bind (some 6) (.loop [.c (.int .i64)] [.c (.int .i64 ((↑s237.snd.fst : Int) - x230.fst))] fun y238 =>
 .nonnil (y54.fst) fun p239 =>
 .load (p239.fst, p239.snd + 2) (.sl) fun s240 =>
 .ite (decide (y238.fst < (↑s240.snd.fst : Int)))
 (.nonnil (y54.fst) fun p241 =>
 .load (p241.fst, p241.snd + 2) (.sl) fun s242 =>
 .load (n0, 0) (.ptr) fun q243 =>
 .nonnil (q243) fun p244 =>
 .load (p244.fst, p244.snd + 7) (.int .i64) fun i245 =>
 .load (p244.fst, p244.snd + 8) (.int .i64) fun i246 =>
 .nonnil (s242.fst) fun p247 =>
 .guard (((0 : Int) ≤ y238.fst) ∧ ((y238.fst : Int) < (↑s242.snd.fst : Int))) <|
 .store (p247.fst, p247.snd + mulN (Int.toNat y238.fst) 2) (.int .i64 (i245)) <|
 .store (p247.fst, p247.snd + mulN (Int.toNat y238.fst) 2 + 1) (.int .i64 (i246)) <|
 .guard (InK IntKind.i64 (y238.fst + 1)) <|
 .done .normal [.c (.int .i64 (y238.fst + 1))])
 (.done (.exit 6) [])) [] fun x248 =>
 .nonnil (y54.fst) fun p249 =>
 .load (p249.fst, p249.snd + 2) (.sl) fun s250 =>
 .nonnil (y54.fst) fun p251 =>
 .load (p251.fst, p251.snd + 2) (.sl) fun s252 =>
 .guard (InK IntKind.i64 ((↑s252.snd.fst : Int) - x230.fst)) <|
 .guard (((0 : Int) ≤ (↑s252.snd.fst : Int) - x230.fst) ∧ (((↑s252.snd.fst : Int) - x230.fst : Int) ≤ (↑s250.snd.snd : Int))) <|
 .nonnil (y54.fst) fun p253 =>
 .store (p253.fst, p253.snd + 2) (.sl (slBase s250.fst s250.snd.snd 0 2) (((↑s252.snd.fst : Int) - x230.fst).toNat - 0) (s250.snd.snd - 0)) <|
 .bind (some 8) (.loop [.c (.int .i64)] [.c (.int .i64 (0))] fun y254 =>
 .ite (decide (y254.fst < (↑y54.snd.fst.snd.fst : Int)))
 (.nonnil (y54.snd.fst.fst) fun p255 =>
 .guard (((0 : Int) ≤ y254.fst) ∧ ((y254.fst : Int) < (↑y54.snd.fst.snd.fst : Int))) <|
 .load (p255.fst, p255.snd + mulN (Int.toNat y254.fst) 2) (.ptr) fun q256 =>
 .nonnil (q256) fun p257 =>
 .load (p257.fst, p257.snd + 1) (.int .i64) fun i258 =>
 .guard (InK IntKind.i64 (i258 - x230.fst)) <|
 .nonnil (q256) fun p259 =>
 .store (p259.fst, p259.snd + 1) (.int .i64 (i258 - x230.fst)) <|
 .guard (InK IntKind.i64 (y254.fst + 1)) <|
 .done .normal [.c (.int .i64 (y254.fst + 1))])
 (.done (.exit 8) [])) [] fun x260 =>
 .load (n0, 0) (.ptr) fun q261 =>
 .nonnil (q261) fun p262 =>
 .load (p262.fst, p262.snd + 3) (.int .i64) fun i263 =>
 .guard (InK IntKind.i64 (i263 - x230.fst)) <|
 .nonnil (q261) fun p264 =>
 .store (p264.fst, p264.snd + 3) (.int .i64 (i263 - x230.fst)) <|
 .ite (x230.snd.fst)
 (.nonnil (y29.snd.snd.snd.snd.fst) fun p265 =>
 .load p265 (.raw) fun v266 =>
 .load (p265.fst, p265.snd + 1) (.int .i64) fun i267 =>
 .load (p265.fst, p265.snd + 2) (.int .i64) fun i268 =>
 .load (p265.fst, p265.snd + 3) (.sl) fun s269 =>
 .store (n3, 0) (.raw (v266)) <|
 .store (n3, 1) (.int .i64 (i267)) <|
 .store (n3, 2) (.int .i64 (i268)) <|
 .store (n3, 3) (.sl (s269.fst) (s269.snd.fst) (s269.snd.snd)) <|
 .load (n3, 0) (.raw) fun v270 =>
 .load (n3, 1) (.int .i64) fun i271 =>
 .load (n3, 2) (.int .i64) fun i272 =>
 .load (n3, 3) (.sl) fun s273 =>
 .done .ret [.agg [.raw (v270), .int .i64 (i271), .int .i64 (i272), .sl (s273.fst) (s273.snd.fst) (s273.snd.snd)]])
 (.done .normal []))
 (.done .normal [])) [] fun x274 =>
 .bind (some 10) (.loop [.c (.sl), .c (.int .i64)] [.c (.sl (y54.snd.fst.fst) (y54.snd.fst.snd.fst) (y54.snd.fst.snd.snd)), .c (.int .i64 (y54.snd.snd.snd.fst))] fun y275 =>
 .nonnil (y54.fst) fun p276 =>
 .load (p276.fst, p276.snd + 2) (.sl) fun s277 =>
 .ite (decide (y275.snd.fst < (↑s277.snd.fst : Int)))
 (.nonnil (y54.fst) fun p278 =>
 .load (p278.fst, p278.snd + 2) (.sl) fun s279 =>
 .nonnil (s279.fst) fun p280 =>
 .guard (((0 : Int) ≤ y275.snd.fst) ∧ ((y275.snd.fst : Int) < (↑s279.snd.fst : Int))) <|
 .load (p280.fst, p280.snd + mulN (Int.toNat y275.snd.fst) 2) (.int .i64) fun i281 =>
 .load (p280.fst, p280.snd + mulN (Int.toNat y275.snd.fst) 2 + 1) (.int .i64) fun i282 =>
 .callv (y29.snd.snd.snd.fst) [.agg [.int .i64 (i281), .int .i64 (i282)]] false [.c (.bool)] fun r283 =>
 .ite (r283.fst)
 (.nonnil (y29.snd.snd.snd.snd.fst) fun p284 =>
 .load p284 (.raw) fun v285 =>
 .load (p284.fst, p284.snd + 1) (.int .i64) fun i286 =>
 .load (p284.fst, p284.snd + 2) (.int .i64) fun i287 =>
 .load (p284.fst, p284.snd + 3) (.sl) fun s288 =>
 .store (n3, 0) (.raw (v285)) <|
 .store (n3, 1) (.int .i64 (i286)) <|
 .store (n3, 2) (.int .i64 (i287)) <|
 .store (n3, 3) (.sl (s288.fst) (s288.snd.fst) (s288.snd.snd)) <|
 .load (n3, 0) (.raw) fun v289 =>
 .load (n3, 1) (.int .i64) fun i290 =>
 .load (n3, 2) (.int .i64) fun i291 =>
 .load (n3, 3) (.sl) fun s292 =>
 .done .ret [.agg [.raw (v289), .int .i64 (i290), .int .i64 (i291), .sl (s292.fst) (s292.snd.fst) (s292.snd.snd)]])
 (.nonnil (y54.fst) fun p293 =>
 .load (p293.fst, p293.snd + 2) (.sl) fun s294 =>
 .load (n0, 0) (.ptr) fun q295 =>
 .nonnil (q295) fun p296 =>
 .load (p296.fst, p296.snd + 10) (.int .i64) fun i297 =>
 .ite (decide ((↑s294.snd.fst : Int) > i297))
 (.bind none (.ite (y29.snd.snd.snd.snd.snd.fst)
 (.nonnil (y54.fst) fun p298 =>
 .load (p298.fst, p298.snd + 2) (.sl) fun s299 =>
 .nonnil (s299.fst) fun p300 =>
 .guard (((0 : Int) ≤ y275.snd.fst) ∧ ((y275.snd.fst : Int) < (↑s299.snd.fst : Int))) <|
 .load (p300.fst, p300.snd + mulN (Int.toNat y275.snd.fst) 2) (.int .i64) fun i301 =>
 .load (p300.fst, p300.snd + mulN (Int.toNat y275.snd.fst) 2 + 1) (.int .i64) fun i302 =>
 .call fn_lg_append [.c (.ptr (y29.snd.snd.snd.snd.fst)), .agg [.int .i64 (i301), .int .i64 (i302)], .c (.ptr none)] true [] fun r303 =>
 .done .normal [])
 (.done .normal [])) [] fun x304 =>
 .nonnil (y54.fst) fun p305 =>
 .load (p305.fst, p305.snd + 2) (.sl) fun s306 =>
 .guard (((0 : Int) ≤ y275.snd.fst) ∧ ((y275.snd.fst : Int) ≤ (↑s306.snd.fst : Int))) <|
 .nonnil (y54.fst) fun p307 =>
 .load (p307.fst, p307.snd + 2) (.sl) fun s308 =>
 .guard (InK IntKind.i64 (y275.snd.fst + 1)) <|
 .guard (((0 : Int) ≤ y275.snd.fst + 1) ∧ ((y275.snd.fst + 1 : Int) ≤ (↑s308.snd.fst : Int))) <|
 .copy 2 ((slBase s306.fst s306.snd.snd (Int.toNat y275.snd.fst) 2), s306.snd.fst - Int.toNat y275.snd.fst, s306.snd.snd - Int.toNat y275.snd.fst) ((slBase s308.fst s308.snd.snd (y275.snd.fst + 1).toNat 2), s308.snd.fst - (y275.snd.fst + 1).toNat, s308.snd.snd - (y275.snd.fst + 1).toNat) fun m309 =>
 .nonnil (y54.fst) fun p310 =>
 .load (p310.fst, p310.snd + 2) (.sl) fun s311 =>
 .nonnil (y54.fst) fun p312 =>
 .load (p312.fst, p312.snd + 2) (.sl) fun s313 =>
 .guard (InK IntKind.i64 ((↑s313.snd.fst : Int) - 1)) <|
 .load (n0, 0) (.ptr) fun q314 =>
 .nonnil (q314) fun p315 =>
 .load (p315.fst, p315.snd + 7) (.int .i64) fun i316 =>
 .load (p315.fst, p315.snd + 8) (.int .i64) fun i317 =>
 .nonnil (s311.fst) fun p318 =>
 .guard (((0 : Int) ≤ (↑s313.snd.fst : Int) - 1) ∧ (((↑s313.snd.fst : Int) - 1 : Int) < (↑s311.snd.fst : Int))) <|
 .store (p318.fst, p318.snd + mulN ((↑s313.snd.fst : Int) - 1).toNat 2) (.int .i64 (i316)) <|
 .store (p318.fst, p318.snd + mulN ((↑s313.snd.fst : Int) - 1).toNat 2 + 1) (.int .i64 (i317)) <|
 .nonnil (y54.fst) fun p319 =>
 .load (p319.fst, p319.snd + 2) (.sl) fun s320 =>
 .nonnil (y54.fst) fun p321 =>
 .load (p321.fst, p321.snd + 2) (.sl) fun s322 =>
 .guard (InK IntKind.i64 ((↑s322.snd.fst : Int) - 1)) <|
 .guard (((0 : Int) ≤ (↑s322.snd.fst : Int) - 1) ∧ (((↑s322.snd.fst : Int) - 1 : Int) ≤ (↑s320.snd.snd : Int))) <|
 .nonnil (y54.fst) fun p323 =>
 .store (p323.fst, p323.snd + 2) (.sl (slBase s320.fst s320.snd.snd 0 2) (((↑s322.snd.fst : Int) - 1).toNat - 0) (s320.snd.snd - 0)) <|
 .bind (some 12) (.loop [.c (.int .i64)] [.c (.int .i64 (0))] fun y324 =>
 .ite (decide (y324.fst < (↑y275.fst.snd.fst : Int)))
 (.nonnil (y275.fst.fst) fun p325 =>
 .guard (((0 : Int) ≤ y324.fst) ∧ ((y324.fst : Int) < (↑y275.fst.snd.fst : Int))) <|
 .load (p325.fst, p325.snd + mulN (Int.toNat y324.fst) 2) (.ptr) fun q326 =>
 .nonnil (q326) fun p327 =>
 .load (p327.fst, p327.snd + 1) (.int .i64) fun i328 =>
 .guard (InK IntKind.i64 (i328 - 1)) <|
 .nonnil (q326) fun p329 =>
 .store (p329.fst, p329.snd + 1) (.int .i64 (i328 - 1)) <|
 .guard (InK IntKind.i64 (y324.fst + 1)) <|
 .done .normal [.c (.int .i64 (y324.fst + 1))])
 (.done (.exit 12) [])) [] fun x330 =>
 .load (n0, 0) (.ptr) fun q331 =>
 .nonnil (q331) fun p332 =>
 .load (p332.fst, p332.snd + 3) (.int .i64) fun i333 =>
 .guard (InK IntKind.i64 (i333 - 1)) <|
 .nonnil (q331) fun p334 =>
 .store (p334.fst, p334.snd + 3) (.int .i64 (i333 - 1)) <|
 .guard (InK IntKind.i64 (y275.snd.fst - 1)) <|
 .guard (InK IntKind.i64 (y275.snd.fst - 1 + 1)) <|
 .done .normal [.c (.sl (y275.fst.fst) (y275.fst.snd.fst) (y275.fst.snd.snd)), .c (.int .i64 (y275.snd.fst - 1 + 1))])
 (.nonnil (y54.fst) fun p335 =>
 .load (p335.fst, p335.snd + 2) (.sl) fun s336 =>
 .nonnil (s336.fst) fun p337 =>
 .guard (((0 : Int) ≤ y275.snd.fst) ∧ ((y275.snd.fst : Int) < (↑s336.snd.fst : Int))) <|
 .load (p337.fst, p337.snd + mulN (Int.toNat y275.snd.fst) 2) (.int .i64) fun i338 =>
 .load (p337.fst, p337.snd + mulN (Int.toNat y275.snd.fst) 2 + 1) (.int .i64) fun i339 =>
 .store y29.snd.fst (.int .i64 (i338)) <|
 .store (y29.snd.fst.fst, y29.snd.fst.snd + 1) (.int .i64 (i339)) <|
 .bind none (.ite (y29.snd.snd.snd.snd.snd.fst)
 (.nonnil (y54.fst) fun p340 =>
 .load (p340.fst, p340.snd + 2) (.sl) fun s341 =>
 .nonnil (s341.fst) fun p342 =>
 .guard (((0 : Int) ≤ y275.snd.fst) ∧ ((y275.snd.fst : Int) < (↑s341.snd.fst : Int))) <|
 .load (p342.fst, p342.snd + mulN (Int.toNat y275.snd.fst) 2) (.int .i64) fun i343 =>
 .load (p342.fst, p342.snd + mulN (Int.toNat y275.snd.fst) 2 + 1) (.int .i64) fun i344 =>
 .call fn_lg_append [.c (.ptr (y29.snd.snd.snd.snd.fst)), .agg [.int .i64 (i343), .int .i64 (i344)], .c (.ptr none)] true [] fun r345 =>
 .done .normal [])
 (.done .normal [])) [] fun x346 =>
 .load (n0, 0) (.ptr) fun q347 =>
 .nonnil (y54.fst) fun p348 =>
 .load (p348.fst, p348.snd + 2) (.sl) fun s349 =>
 .nonnil (s349.fst) fun p350 =>
 .guard (((0 : Int) ≤ y275.snd.fst) ∧ ((y275.snd.fst : Int) < (↑s349.snd.fst : Int))) <|
 .load (p350.fst, p350.snd + mulN (Int.toNat y275.snd.fst) 2) (.int .i64) fun i351 =>
 .load (p350.fst, p350.snd + mulN (Int.toNat y275.snd.fst) 2 + 1) (.int .i64) fun i352 =>
 .call fn_tg_deleteHint [.c (.ptr (q347)), .agg [.int .i64 (i351), .int .i64 (i352)], .c (.addr y29.snd.snd.fst)] true [.agg [.int .i64, .int .i64], .c (.bool)] fun r353 =>
 .guard (((0 : Int) ≤ 0) ∧ ((0 : Int) ≤ (↑y275.fst.snd.snd : Int))) <|
 .done (.exit 1000) [.c (.sl (slBase y275.fst.fst y275.fst.snd.snd 0 2) (0) (y275.fst.snd.snd - 0)), .c (.addr y29.snd.fst), .c (.addr y29.snd.snd.fst), .c (.raw (y29.snd.snd.snd.fst)), .c (.ptr (y29.snd.snd.snd.snd.fst)), .c (.bool (y29.snd.snd.snd.snd.snd.fst))])))
 (.done (.exit 10) [.c (.sl (y275.fst.fst) (y275.fst.snd.fst) (y275.fst.snd.snd))])) [.c (.sl)] fun x354 =>
 .loop [.c (.sl)] [.c (.sl (x354.fst.fst) (x354.fst.snd.fst) (x354.fst.snd.snd))] fun y355 =>
 .guard (InK IntKind.i64 ((↑y355.fst.snd.fst : Int) - 1)) <|
 .nonnil (y355.fst.fst) fun p356 =>
 .guard (((0 : Int) ≤ (↑y355.fst.snd.fst : Int) - 1) ∧ (((↑y355.fst.snd.fst : Int) - 1 : Int) < (↑y355.fst.snd.fst : Int))) <|
 .load (p356.fst, p356.snd + mulN ((↑y355.fst.snd.fst : Int) - 1).toNat 2 + 1) (.int .i64) fun i357 =>
 .guard (InK IntKind.i64 ((↑y355.fst.snd.fst : Int) - 1)) <|
 .guard (((0 : Int) ≤ (↑y355.fst.snd.fst : Int) - 1) ∧ (((↑y355.fst.snd.fst : Int) - 1 : Int) ≤ (↑y355.fst.snd.snd : Int))) <|
 .ite ((↑(((↑y355.fst.snd.fst : Int) - 1).toNat - 0) : Int) == 0)
 (.nonnil (y29.snd.snd.snd.snd.fst) fun p358 =>
 .load p358 (.raw) fun v359 =>
 .load (p358.fst, p358.snd + 1) (.int .i64) fun i360 =>
 .load (p358.fst, p358.snd + 2) (.int .i64) fun i361 =>
 .load (p358.fst, p358.snd + 3) (.sl) fun s362 =>
 .store (n3, 0) (.raw (v359)) <|
 .store (n3, 1) (.int .i64 (i360)) <|
 .store (n3, 2) (.int .i64 (i361)) <|
 .store (n3, 3) (.sl (s362.fst) (s362.snd.fst) (s362.snd.snd)) <|
 .load (n3, 0) (.raw) fun v363 =>
 .load (n3, 1) (.int .i64) fun i364 =>
 .load (n3, 2) (.int .i64) fun i365 =>
 .load (n3, 3) (.sl) fun s366 =>
 .done .ret [.agg [.raw (v363), .int .i64 (i364), .int .i64 (i365), .sl (s366.fst) (s366.snd.fst) (s366.snd.snd)]])
 (.guard (InK IntKind.i64 ((↑(((↑y355.fst.snd.fst : Int) - 1).toNat - 0) : Int) - 1)) <|
 .nonnil (slBase y355.fst.fst y355.fst.snd.snd 0 2) fun p367 =>
 .guard (((0 : Int) ≤ (↑(((↑y355.fst.snd.fst : Int) - 1).toNat - 0) : Int) - 1) ∧ (((↑(((↑y355.fst.snd.fst : Int) - 1).toNat - 0) : Int) - 1 : Int) < (↑(((↑y355.fst.snd.fst : Int) - 1).toNat - 0) : Int))) <|
 .load (p367.fst, p367.snd + mulN ((↑(((↑y355.fst.snd.fst : Int) - 1).toNat - 0) : Int) - 1).toNat 2) (.ptr) fun q368 =>
 .nonnil (q368) fun p369 =>
 .load (p369.fst, p369.snd + 2) (.sl) fun s370 =>
 .ite (decide (i357 < (↑s370.snd.fst : Int)))
 (.done (.exit 1001) [.c (.ptr (q368)), .c (.sl (slBase y355.fst.fst y355.fst.snd.snd 0 2) (((↑y355.fst.snd.fst : Int) - 1).toNat - 0) (y355.fst.snd.snd - 0)), .c (.tt), .c (.int .i64 (i357))])
 (.done .normal [.c (.sl (slBase y355.fst.fst y355.fst.snd.snd 0 2) (((↑y355.fst.snd.fst : Int) - 1).toNat - 0) (y355.fst.snd.snd - 0))])))) [.c (.ptr), .c (.sl), .c (.bool), .c (.int .i64)] fun x371 =>
 .done .normal [.c (.ptr (x371.fst)), .c (.sl (x371.snd.fst.fst) (x371.snd.fst.snd.fst) (x371.snd.fst.snd.snd)), .c (.bool (x371.snd.snd.fst)), .c (.int .i64 (x371.snd.snd.snd.fst))]) [.c (.ptr), .c (.sl)] fun x372 =>
 .done .normal [.c (.ptr (x372.fst)), .c (.sl (x372.snd.fst.fst) (x372.snd.fst.snd.fst) (x372.snd.fst.snd.snd))])) [.c (.sl), .c (.addr), .c (.addr), .c (.raw), .c (.ptr), .c (.bool)] fun x373 =>
 .done .normal [.c (.sl (x373.fst.fst) (x373.fst.snd.fst) (x373.fst.snd.snd)), .c (.addr x373.snd.fst), .c (.addr x373.snd.snd.fst), .c (.raw (x373.snd.snd.snd.fst)), .c (.ptr (x373.snd.snd.snd.snd.fst)), .c (.bool (x373.snd.snd.snd.snd.snd.fst))]
theorem den_tg_DeleteRangeReuse (a0 : PA) (a10 : Int) (a11 : Int) (a20 : Int) (a21 : Int) (a3 : Option PA) (a4 : PA) : denFn Try.prog Try.f32 [.c (.addr a0), .agg [.int .i64 a10, .int .i64 a11], .agg [.int .i64 a20, .int .i64 a21], .c (.ptr a3), .c (.addr a4)] = M_tg_DeleteRangeReuse a0 a10 a11 a20 a21 a3 a4 := by kernel_rfl
theorem hc_tg_DeleteRangeReuse (a0 : PA) (a10 : Int) (a11 : Int) (a20 : Int) (a21 : Int) (a3 : Option PA) (a4 : PA) {h : H} {R : Value → H → Prop} (hw : wp Try.prog (M_tg_DeleteRangeReuse a0 a10 a11 a20 a21 a3 a4) (Ret R) h) : HC Try.prog fn_tg_DeleteRangeReuse (List.map AV.val [.c (.addr a0), .agg [.int .i64 a10, .int .i64 a11], .agg [.int .i64 a20, .int .i64 a21], .c (.ptr a3), .c (.addr a4)]).toArray h R :=
  den_calls hmix Try.func32 (of_decide_eq_true rfl) (by rw [den_tg_DeleteRangeReuse]; exact hw)
def M_tg_DeleteRangeReuse_1 (a00 : Int) (a01 : Int) (f0 : PA) (f1 : PA) (f2 : PA) : M :=
 .alloc ty_impl_Item [.int .i64 (a00), .int .i64 (a01)] fun n0 =>
 .load f0 (.bool) fun b1 =>
 .ite (b1)
 (.load f1 (.ptr) fun q2 =>
 .nonnil (q2) fun p3 =>
 .load (p3.fst, p3.snd + 6) (.raw) fun v4 =>
 .load f2 (.int .i64) fun i5 =>
 .load (f2.fst, f2.snd + 1) (.int .i64) fun i6 =>
 .load (n0, 0) (.int .i64) fun i7 =>
 .load (n0, 1) (.int .i64) fun i8 =>
 .callv (v4) [.agg [.int .i64 (i5), .int .i64 (i6)], .agg [.int .i64 (i7), .int .i64 (i8)]] false [.c (.bool)] fun r9 =>
 .done .ret [.c (.bool (r9.fst))])
 (.load f1 (.ptr) fun q10 =>
 .nonnil (q10) fun p11 =>
 .load (p11.fst, p11.snd + 6) (.raw) fun v12 =>
 .load (n0, 0) (.int .i64) fun i13 =>
 .load (n0, 1) (.int .i64) fun i14 =>
 .load f2 (.int .i64) fun i15 =>
 .load (f2.fst, f2.snd + 1) (.int .i64) fun i16 =>
 .callv (v12) [.agg [.int .i64 (i13), .int .i64 (i14)], .agg [.int .i64 (i15), .int .i64 (i16)]] false [.c (.bool)] fun r17 =>
 .done .ret [.c (.bool (!r17.fst))])
theorem den_tg_DeleteRangeReuse_1 (a00 : Int) (a01 : Int) (f0 : PA) (f1 : PA) (f2 : PA) : denFn Try.prog Try.f51 [.agg [.int .i64 a00, .int .i64 a01], .c (.addr f0), .c (.addr f1), .c (.addr f2)] = M_tg_DeleteRangeReuse_1 a00 a01 f0 f1 f2 := by kernel_rfl
theorem hc_tg_DeleteRangeReuse_1 (a00 : Int) (a01 : Int) (f0 : PA) (f1 : PA) (f2 : PA) {h : H} {R : Value → H → Prop} (hw : wp Try.prog (M_tg_DeleteRangeReuse_1 a00 a01 f0 f1 f2) (Ret R) h) : HC Try.prog fn_tg_DeleteRangeReuse_1 (List.map AV.val [.agg [.int .i64 a00, .int .i64 a01], .c (.addr f0), .c (.addr f1), .c (.addr f2)]).toArray h R :=
  den_calls hmix Try.func51 (of_decide_eq_true rfl) (by rw [den_tg_DeleteRangeReuse_1]; exact hw)
end Go.Proofs.Ytegnpimlfphncaa
