/-
  Functions of the translation as typed programs, and that each is its function's reading. Written by a program of ours (gen2.py). Conditions: none.
-/
import Derived.Test.YtegnpimlfphncaaNm
namespace Go.Proofs.Ytegnpimlfphncaa
open Go
set_option maxRecDepth 100000
set_option linter.unusedVariables false
def M_tg_delete (a0 : PA) (a1 : PA) (a2 : Bool) (a30 : Int) (a31 : Int) (a4 : Option PA) (a5 : Int) : M :=
 .alloc ty_impl_Item [.int .i64 (a30), .int .i64 (a31)] fun n0 =>
 .alloc ty_impl_Item [.int .i64 (0), .int .i64 (0)] fun n1 =>
 .call fn_tg_isoLoad [.c (.addr a0), .c (.addr a1), .c (.tt)] false [.c (.ptr)] fun r2 =>
 .bind none (.ite (a2)
 (.nonnil (r2.fst) fun p3 =>
 .load (p3.fst, p3.snd + 2) (.sl) fun s4 =>
 .guard (InK IntKind.i64 ((↑s4.snd.fst : Int) - 1)) <|
 .done .normal [.c (.tt), .c (.int .i64 ((↑s4.snd.fst : Int) - 1))])
 (.load (n0, 0) (.int .i64) fun i5 =>
 .load (n0, 1) (.int .i64) fun i6 =>
 .call fn_tg_find [.c (.addr a0), .c (.ptr (r2.fst)), .agg [.int .i64 (i5), .int .i64 (i6)], .c (.ptr (a4)), .c (.int .i64 (a5))] true [.c (.int .i64), .c (.bool)] fun r7 =>
 .done .normal [.c (.bool (r7.snd.fst)), .c (.int .i64 (r7.fst))])) [.c (.bool), .c (.int .i64)] fun x8 =>
 .call fn_ng_leaf [.c (.ptr (r2.fst))] false [.c (.bool)] fun r9 =>
 .ite (r9.fst)
 (.ite (x8.fst)
 (.nonnil (r2.fst) fun p10 =>
 .load (p10.fst, p10.snd + 2) (.sl) fun s11 =>
 .nonnil (s11.fst) fun p12 =>
 .guard (((0 : Int) ≤ x8.snd.fst) ∧ ((x8.snd.fst : Int) < (↑s11.snd.fst : Int))) <|
 .load (p12.fst, p12.snd + mulN (Int.toNat x8.snd.fst) 2) (.int .i64) fun i13 =>
 .load (p12.fst, p12.snd + mulN (Int.toNat x8.snd.fst) 2 + 1) (.int .i64) fun i14 =>
 .alloc ty_impl_Item [.int .i64 (0), .int .i64 (0)] fun n15 =>
 .store (n15, 0) (.int .i64 (i13)) <|
 .store (n15, 1) (.int .i64 (i14)) <|
 .nonnil (r2.fst) fun p16 =>
 .load (p16.fst, p16.snd + 2) (.sl) fun s17 =>
 .guard (((0 : Int) ≤ x8.snd.fst) ∧ ((x8.snd.fst : Int) ≤ (↑s17.snd.fst : Int))) <|
 .nonnil (r2.fst) fun p18 =>
 .load (p18.fst, p18.snd + 2) (.sl) fun s19 =>
 .guard (InK IntKind.i64 (x8.snd.fst + 1)) <|
 .guard (((0 : Int) ≤ x8.snd.fst + 1) ∧ ((x8.snd.fst + 1 : Int) ≤ (↑s19.snd.fst : Int))) <|
 .copy 2 ((slBase s17.fst s17.snd.snd (Int.toNat x8.snd.fst) 2), s17.snd.fst - Int.toNat x8.snd.fst, s17.snd.snd - Int.toNat x8.snd.fst) ((slBase s19.fst s19.snd.snd (x8.snd.fst + 1).toNat 2), s19.snd.fst - (x8.snd.fst + 1).toNat, s19.snd.snd - (x8.snd.fst + 1).toNat) fun m20 =>
 .nonnil (r2.fst) fun p21 =>
 .load (p21.fst, p21.snd + 2) (.sl) fun s22 =>
 .nonnil (r2.fst) fun p23 =>
 .load (p23.fst, p23.snd + 2) (.sl) fun s24 =>
 .guard (InK IntKind.i64 ((↑s24.snd.fst : Int) - 1)) <|
 .load (a0.fst, a0.snd + 7) (.int .i64) fun i25 =>
 .load (a0.fst, a0.snd + 8) (.int .i64) fun i26 =>
 .nonnil (s22.fst) fun p27 =>
 .guard (((0 : Int) ≤ (↑s24.snd.fst : Int) - 1) ∧ (((↑s24.snd.fst : Int) - 1 : Int) < (↑s22.snd.fst : Int))) <|
 .store (p27.fst, p27.snd + mulN ((↑s24.snd.fst : Int) - 1).toNat 2) (.int .i64 (i25)) <|
 .store (p27.fst, p27.snd + mulN ((↑s24.snd.fst : Int) - 1).toNat 2 + 1) (.int .i64 (i26)) <|
 .nonnil (r2.fst) fun p28 =>
 .load (p28.fst, p28.snd + 2) (.sl) fun s29 =>
 .nonnil (r2.fst) fun p30 =>
 .load (p30.fst, p30.snd + 2) (.sl) fun s31 =>
 .guard (InK IntKind.i64 ((↑s31.snd.fst : Int) - 1)) <|
 .guard (((0 : Int) ≤ (↑s31.snd.fst : Int) - 1) ∧ (((↑s31.snd.fst : Int) - 1 : Int) ≤ (↑s29.snd.snd : Int))) <|
 .nonnil (r2.fst) fun p32 =>
 .store (p32.fst, p32.snd + 2) (.sl (slBase s29.fst s29.snd.snd 0 2) (((↑s31.snd.fst : Int) - 1).toNat - 0) (s29.snd.snd - 0)) <|
 .nonnil (r2.fst) fun p33 =>
 .load (p33.fst, p33.snd + 1) (.int .i64) fun i34 =>
 .guard (InK IntKind.i64 (i34 - 1)) <|
 .nonnil (r2.fst) fun p35 =>
 .store (p35.fst, p35.snd + 1) (.int .i64 (i34 - 1)) <|
 .load (n15, 0) (.int .i64) fun i36 =>
 .load (n15, 1) (.int .i64) fun i37 =>
 .store (n1, 0) (.int .i64 (i36)) <|
 .store (n1, 1) (.int .i64 (i37)) <|
 .load (n1, 0) (.int .i64) fun i38 =>
 .load (n1, 1) (.int .i64) fun i39 =>
 .done .ret [.agg [.int .i64 (i38), .int .i64 (i39)], .c (.tt)])
 (.load (a0.fst, a0.snd + 7) (.int .i64) fun i40 =>
 .load (a0.fst, a0.snd + 8) (.int .i64) fun i41 =>
 .store (n1, 0) (.int .i64 (i40)) <|
 .store (n1, 1) (.int .i64 (i41)) <|
 .load (n1, 0) (.int .i64) fun i42 =>
 .load (n1, 1) (.int .i64) fun i43 =>
 .done .ret [.agg [.int .i64 (i42), .int .i64 (i43)], .c (.ff)]))
 (.alloc ty_impl_Item [.int .i64 (0), .int .i64 (0)] fun n44 =>
 .bind none (.ite (x8.fst)
 (.bind none (.ite (a2)
 (.guard (InK IntKind.i64 (x8.snd.fst + 1)) <|
 .nonnil (r2.fst) fun p45 =>
 .load (p45.fst, p45.snd + 3) (.ptr) fun q46 =>
 .nonnil (q46) fun p47 =>
 .load p47 (.sl) fun s48 =>
 .nonnil (s48.fst) fun p49 =>
 .guard (((0 : Int) ≤ x8.snd.fst + 1) ∧ ((x8.snd.fst + 1 : Int) < (↑s48.snd.fst : Int))) <|
 .load (a0.fst, a0.snd + 7) (.int .i64) fun i50 =>
 .load (a0.fst, a0.snd + 8) (.int .i64) fun i51 =>
 .call fn_tg_delete [.c (.addr a0), .c (.addr (p49.fst, p49.snd + (x8.snd.fst + 1).toNat)), .c (.tt), .agg [.int .i64 (i50), .int .i64 (i51)], .c (.ptr none), .c (.int .i64 (0))] true [.agg [.int .i64, .int .i64], .c (.bool)] fun r52 =>
 .store (n44, 0) (.int .i64 (r52.fst.fst)) <|
 .store (n44, 1) (.int .i64 (r52.fst.snd.fst)) <|
 .done .normal [.c (.bool (r52.snd.fst)), .c (.int .i64 (x8.snd.fst + 1))])
 (.nonnil (r2.fst) fun p53 =>
 .load (p53.fst, p53.snd + 2) (.sl) fun s54 =>
 .nonnil (s54.fst) fun p55 =>
 .guard (((0 : Int) ≤ x8.snd.fst) ∧ ((x8.snd.fst : Int) < (↑s54.snd.fst : Int))) <|
 .load (p55.fst, p55.snd + mulN (Int.toNat x8.snd.fst) 2) (.int .i64) fun i56 =>
 .load (p55.fst, p55.snd + mulN (Int.toNat x8.snd.fst) 2 + 1) (.int .i64) fun i57 =>
 .store (n44, 0) (.int .i64 (i56)) <|
 .store (n44, 1) (.int .i64 (i57)) <|
 .bind none (.nonnil (r2.fst) fun p58 =>
 .load (p58.fst, p58.snd + 3) (.ptr) fun q59 =>
 .nonnil (q59) fun p60 =>
 .load p60 (.sl) fun s61 =>
 .nonnil (s61.fst) fun p62 =>
 .guard (((0 : Int) ≤ x8.snd.fst) ∧ ((x8.snd.fst : Int) < (↑s61.snd.fst : Int))) <|
 .load (a0.fst, a0.snd + 7) (.int .i64) fun i63 =>
 .load (a0.fst, a0.snd + 8) (.int .i64) fun i64 =>
 .both
 (.call fn_tg_delete [.c (.addr a0), .c (.addr (p62.fst, p62.snd + Int.toNat x8.snd.fst)), .c (.tt), .agg [.int .i64 (i63), .int .i64 (i64)], .c (.ptr none), .c (.int .i64 (0))] true [.agg [.int .i64, .int .i64], .c (.bool)] fun r65 =>
 .alloc ty_impl_Item [.int .i64 (0), .int .i64 (0)] fun n66 =>
 .store (n66, 0) (.int .i64 (r65.fst.fst)) <|
 .store (n66, 1) (.int .i64 (r65.fst.snd.fst)) <|
 .done .normal [.c (.addr (n66, 0))])
 (.alloc ty_impl_Item [.int .i64 (0), .int .i64 (0)] fun n67 =>
 .held (a0.fst, a0.snd + 7) (.int .i64 (i63)) <|
 .held (a0.fst, a0.snd + 8) (.int .i64 (i64)) <|
 .held p60 (.sl (s61.fst) (s61.snd.fst) (s61.snd.snd)) <|
 .held (p58.fst, p58.snd + 3) (.ptr (q59)) <|
 .call fn_tg_delete [.c (.addr a0), .c (.addr (p62.fst, p62.snd + Int.toNat x8.snd.fst)), .c (.tt), .agg [.int .i64 (i63), .int .i64 (i64)], .c (.ptr none), .c (.int .i64 (0))] true [.agg [.int .i64, .int .i64], .c (.bool)] fun r68 =>
 .store (n67, 0) (.int .i64 (r68.fst.fst)) <|
 .store (n67, 1) (.int .i64 (r68.fst.snd.fst)) <|
 .done .normal [.c (.addr (n67, 0))])) [.c (.addr)] fun x69 =>
 .nonnil (r2.fst) fun p70 =>
 .load (p70.fst, p70.snd + 2) (.sl) fun s71 =>
 .load x69.fst (.int .i64) fun i72 =>
 .load (x69.fst.fst, x69.fst.snd + 1) (.int .i64) fun i73 =>
 .nonnil (s71.fst) fun p74 =>
 .guard (((0 : Int) ≤ x8.snd.fst) ∧ ((x8.snd.fst : Int) < (↑s71.snd.fst : Int))) <|
 .store (p74.fst, p74.snd + mulN (Int.toNat x8.snd.fst) 2) (.int .i64 (i72)) <|
 .store (p74.fst, p74.snd + mulN (Int.toNat x8.snd.fst) 2 + 1) (.int .i64 (i73)) <|
 .done .normal [.c (.tt), .c (.int .i64 (x8.snd.fst))])) [.c (.bool), .c (.int .i64)] fun x75 =>
 .done .normal [.c (.bool (x75.fst)), .c (.int .i64 (x75.snd.fst))])
 (.nonnil (r2.fst) fun p76 =>
 .load (p76.fst, p76.snd + 3) (.ptr) fun q77 =>
 .nonnil (q77) fun p78 =>
 .load p78 (.sl) fun s79 =>
 .nonnil (s79.fst) fun p80 =>
 .guard (((0 : Int) ≤ x8.snd.fst) ∧ ((x8.snd.fst : Int) < (↑s79.snd.fst : Int))) <|
 .load (n0, 0) (.int .i64) fun i81 =>
 .load (n0, 1) (.int .i64) fun i82 =>
 .guard (InK IntKind.i64 (a5 + 1)) <|
 .call fn_tg_delete [.c (.addr a0), .c (.addr (p80.fst, p80.snd + Int.toNat x8.snd.fst)), .c (.bool (a2)), .agg [.int .i64 (i81), .int .i64 (i82)], .c (.ptr (a4)), .c (.int .i64 (a5 + 1))] true [.agg [.int .i64, .int .i64], .c (.bool)] fun r83 =>
 .store (n44, 0) (.int .i64 (r83.fst.fst)) <|
 .store (n44, 1) (.int .i64 (r83.fst.snd.fst)) <|
 .done .normal [.c (.bool (r83.snd.fst)), .c (.int .i64 (x8.snd.fst))])) [.c (.bool), .c (.int .i64)] fun x84 =>
 .ite (!x84.fst)
 (.load (a0.fst, a0.snd + 7) (.int .i64) fun i85 =>
 .load (a0.fst, a0.snd + 8) (.int .i64) fun i86 =>
 .store (n1, 0) (.int .i64 (i85)) <|
 .store (n1, 1) (.int .i64 (i86)) <|
 .load (n1, 0) (.int .i64) fun i87 =>
 .load (n1, 1) (.int .i64) fun i88 =>
 .done .ret [.agg [.int .i64 (i87), .int .i64 (i88)], .c (.ff)])
 (.nonnil (r2.fst) fun p89 =>
 .load (p89.fst, p89.snd + 1) (.int .i64) fun i90 =>
 .guard (InK IntKind.i64 (i90 - 1)) <|
 .nonnil (r2.fst) fun p91 =>
 .store (p91.fst, p91.snd + 1) (.int .i64 (i90 - 1)) <|
 .nonnil (r2.fst) fun p92 =>
 .load (p92.fst, p92.snd + 3) (.ptr) fun q93 =>
 .nonnil (q93) fun p94 =>
 .load p94 (.sl) fun s95 =>
 .nonnil (s95.fst) fun p96 =>
 .guard (((0 : Int) ≤ x84.snd.fst) ∧ ((x84.snd.fst : Int) < (↑s95.snd.fst : Int))) <|
 .load (p96.fst, p96.snd + Int.toNat x84.snd.fst) (.ptr) fun q97 =>
 .nonnil (q97) fun p98 =>
 .load (p98.fst, p98.snd + 2) (.sl) fun s99 =>
 .load (a0.fst, a0.snd + 10) (.int .i64) fun i100 =>
 .bind none (.ite (decide ((↑s99.snd.fst : Int) < i100))
 (.call fn_tg_nodeRebalance [.c (.addr a0), .c (.ptr (r2.fst)), .c (.int .i64 (x84.snd.fst))] true [] fun r101 =>
 .done .normal [])
 (.done .normal [])) [] fun x102 =>
 .load (n44, 0) (.int .i64) fun i103 =>
 .load (n44, 1) (.int .i64) fun i104 =>
 .store (n1, 0) (.int .i64 (i103)) <|
 .store (n1, 1) (.int .i64 (i104)) <|
 .load (n1, 0) (.int .i64) fun i105 =>
 .load (n1, 1) (.int .i64) fun i106 =>
 .done .ret [.agg [.int .i64 (i105), .int .i64 (i106)], .c (.tt)]))
theorem den_tg_delete (a0 : PA) (a1 : PA) (a2 : Bool) (a30 : Int) (a31 : Int) (a4 : Option PA) (a5 : Int) : denFn Try.prog Try.f61 [.c (.addr a0), .c (.addr a1), .c (.bool a2), .agg [.int .i64 a30, .int .i64 a31], .c (.ptr a4), .c (.int .i64 a5)] = M_tg_delete a0 a1 a2 a30 a31 a4 a5 := by kernel_rfl
theorem hc_tg_delete (a0 : PA) (a1 : PA) (a2 : Bool) (a30 : Int) (a31 : Int) (a4 : Option PA) (a5 : Int) {h : H} {R : Value → H → Prop} (hw : wp Try.prog (M_tg_delete a0 a1 a2 a30 a31 a4 a5) (Ret R) h) : HC Try.prog fn_tg_delete (List.map AV.val [.c (.addr a0), .c (.addr a1), .c (.bool a2), .agg [.int .i64 a30, .int .i64 a31], .c (.ptr a4), .c (.int .i64 a5)]).toArray h R :=
  den_calls hmix Try.func61 (of_decide_eq_true rfl) (by rw [den_tg_delete]; exact hw)
def M_tg_deleteHint (a0 : PA) (a10 : Int) (a11 : Int) (a2 : Option PA) : M :=
 .alloc ty_impl_Item [.int .i64 (a10), .int .i64 (a11)] fun n0 =>
 .alloc ty_impl_Item [.int .i64 (0), .int .i64 (0)] fun n1 =>
 .load (a0.fst, a0.snd + 2) (.ptr) fun q2 =>
 .ite (Option.isNone q2)
 (.load (a0.fst, a0.snd + 7) (.int .i64) fun i3 =>
 .load (a0.fst, a0.snd + 8) (.int .i64) fun i4 =>
 .store (n1, 0) (.int .i64 (i3)) <|
 .store (n1, 1) (.int .i64 (i4)) <|
 .load (n1, 0) (.int .i64) fun i5 =>
 .load (n1, 1) (.int .i64) fun i6 =>
 .done .ret [.agg [.int .i64 (i5), .int .i64 (i6)], .c (.ff)])
 (.bind none (.load (n0, 0) (.int .i64) fun i7 =>
 .load (n0, 1) (.int .i64) fun i8 =>
 .both
 (.call fn_tg_delete [.c (.addr a0), .c (.addr (a0.fst, a0.snd + 2)), .c (.ff), .agg [.int .i64 (i7), .int .i64 (i8)], .c (.ptr (a2)), .c (.int .i64 (0))] true [.agg [.int .i64, .int .i64], .c (.bool)] fun r9 =>
 .alloc ty_impl_Item [.int .i64 (0), .int .i64 (0)] fun n10 =>
 .store (n10, 0) (.int .i64 (r9.fst.fst)) <|
 .store (n10, 1) (.int .i64 (r9.fst.snd.fst)) <|
 .done .normal [.c (.bool (r9.snd.fst)), .c (.addr (n10, 0))])
 (.alloc ty_impl_Item [.int .i64 (0), .int .i64 (0)] fun n11 =>
 .held (n0, 0) (.int .i64 (i7)) <|
 .held (n0, 1) (.int .i64 (i8)) <|
 .call fn_tg_delete [.c (.addr a0), .c (.addr (a0.fst, a0.snd + 2)), .c (.ff), .agg [.int .i64 (i7), .int .i64 (i8)], .c (.ptr (a2)), .c (.int .i64 (0))] true [.agg [.int .i64, .int .i64], .c (.bool)] fun r12 =>
 .store (n11, 0) (.int .i64 (r12.fst.fst)) <|
 .store (n11, 1) (.int .i64 (r12.fst.snd.fst)) <|
 .done .normal [.c (.bool (r12.snd.fst)), .c (.addr (n11, 0))])) [.c (.bool), .c (.addr)] fun x13 =>
 .ite (!x13.fst)
 (.load (a0.fst, a0.snd + 7) (.int .i64) fun i14 =>
 .load (a0.fst, a0.snd + 8) (.int .i64) fun i15 =>
 .store (n1, 0) (.int .i64 (i14)) <|
 .store (n1, 1) (.int .i64 (i15)) <|
 .load (n1, 0) (.int .i64) fun i16 =>
 .load (n1, 1) (.int .i64) fun i17 =>
 .done .ret [.agg [.int .i64 (i16), .int .i64 (i17)], .c (.ff)])
 (.bind none (.load (a0.fst, a0.snd + 2) (.ptr) fun q18 =>
 .nonnil (q18) fun p19 =>
 .load (p19.fst, p19.snd + 2) (.sl) fun s20 =>
 .ite ((↑s20.snd.fst : Int) == 0)
 (.load (a0.fst, a0.snd + 2) (.ptr) fun q21 =>
 .call fn_ng_leaf [.c (.ptr (q21))] false [.c (.bool)] fun r22 =>
 .done .normal [.c (.bool (!r22.fst))])
 (.done .normal [.c (.ff)])) [.c (.bool)] fun x23 =>
 .bind none (.ite (x23.fst)
 (.load (a0.fst, a0.snd + 2) (.ptr) fun q24 =>
 .nonnil (q24) fun p25 =>
 .load (p25.fst, p25.snd + 3) (.ptr) fun q26 =>
 .nonnil (q26) fun p27 =>
 .load p27 (.sl) fun s28 =>
 .nonnil (s28.fst) fun p29 =>
 .guard (((0 : Int) ≤ 0) ∧ ((0 : Int) < (↑s28.snd.fst : Int))) <|
 .load (p29.fst, p29.snd) (.ptr) fun q30 =>
 .store (a0.fst, a0.snd + 2) (.ptr (q30)) <|
 .done .normal [])
 (.done .normal [])) [] fun x31 =>
 .load (a0.fst, a0.snd + 3) (.int .i64) fun i32 =>
 .guard (InK IntKind.i64 (i32 - 1)) <|
 .store (a0.fst, a0.snd + 3) (.int .i64 (i32 - 1)) <|
 .load (a0.fst, a0.snd + 3) (.int .i64) fun i33 =>
 .bind none (.ite (i33 == 0)
 (.store (a0.fst, a0.snd + 2) (.ptr none) <|
 .done .normal [])
 (.done .normal [])) [] fun x34 =>
 .load x13.snd.fst (.int .i64) fun i35 =>
 .load (x13.snd.fst.fst, x13.snd.fst.snd + 1) (.int .i64) fun i36 =>
 .store (n1, 0) (.int .i64 (i35)) <|
 .store (n1, 1) (.int .i64 (i36)) <|
 .load (n1, 0) (.int .i64) fun i37 =>
 .load (n1, 1) (.int .i64) fun i38 =>
 .done .ret [.agg [.int .i64 (i37), .int .i64 (i38)], .c (.tt)]))
theorem den_tg_deleteHint (a0 : PA) (a10 : Int) (a11 : Int) (a2 : Option PA) : denFn Try.prog Try.f40 [.c (.addr a0), .agg [.int .i64 a10, .int .i64 a11], .c (.ptr a2)] = M_tg_deleteHint a0 a10 a11 a2 := by kernel_rfl
theorem hc_tg_deleteHint (a0 : PA) (a10 : Int) (a11 : Int) (a2 : Option PA) {h : H} {R : Value → H → Prop} (hw : wp Try.prog (M_tg_deleteHint a0 a10 a11 a2) (Ret R) h) : HC Try.prog fn_tg_deleteHint (List.map AV.val [.c (.addr a0), .agg [.int .i64 a10, .int .i64 a11], .c (.ptr a2)]).toArray h R :=
  den_calls hmix Try.func40 (of_decide_eq_true rfl) (by rw [den_tg_deleteHint]; exact hw)
def M_tg_nodeRebalance (a0 : PA) (a1 : PA) (a2 : Int) : M :=
 .load (a1.fst, a1.snd + 2) (.sl) fun s0 =>
 .bind none (.ite (a2 == (↑s0.snd.fst : Int))
 (.guard (InK IntKind.i64 (a2 - 1)) <|
 .done .normal [.c (.int .i64 (a2 - 1))])
 (.done .normal [.c (.int .i64 (a2))])) [.c (.int .i64)] fun x1 =>
 .load (a1.fst, a1.snd + 3) (.ptr) fun q2 =>
 .nonnil (q2) fun p3 =>
 .load p3 (.sl) fun s4 =>
 .nonnil (s4.fst) fun p5 =>
 .guard (((0 : Int) ≤ x1.fst) ∧ ((x1.fst : Int) < (↑s4.snd.fst : Int))) <|
 .call fn_tg_isoLoad [.c (.addr a0), .c (.addr (p5.fst, p5.snd + Int.toNat x1.fst)), .c (.tt)] false [.c (.ptr)] fun r6 =>
 .load (a1.fst, a1.snd + 3) (.ptr) fun q7 =>
 .nonnil (q7) fun p8 =>
 .load p8 (.sl) fun s9 =>
 .guard (InK IntKind.i64 (x1.fst + 1)) <|
 .nonnil (s9.fst) fun p10 =>
 .guard (((0 : Int) ≤ x1.fst + 1) ∧ ((x1.fst + 1 : Int) < (↑s9.snd.fst : Int))) <|
 .call fn_tg_isoLoad [.c (.addr a0), .c (.addr (p10.fst, p10.snd + (x1.fst + 1).toNat)), .c (.tt)] false [.c (.ptr)] fun r11 =>
 .nonnil (r6.fst) fun p12 =>
 .load (p12.fst, p12.snd + 2) (.sl) fun s13 =>
 .nonnil (r11.fst) fun p14 =>
 .load (p14.fst, p14.snd + 2) (.sl) fun s15 =>
 .guard (InK IntKind.i64 ((↑s13.snd.fst : Int) + (↑s15.snd.fst : Int))) <|
 .load (a0.fst, a0.snd + 9) (.int .i64) fun i16 =>
 .bind none (.ite (decide ((↑s13.snd.fst : Int) + (↑s15.snd.fst : Int) < i16))
 (.nonnil (r6.fst) fun p17 =>
 .load (p17.fst, p17.snd + 2) (.sl) fun s18 =>
 .load (a1.fst, a1.snd + 2) (.sl) fun s19 =>
 .nonnil (s19.fst) fun p20 =>
 .guard (((0 : Int) ≤ x1.fst) ∧ ((x1.fst : Int) < (↑s19.snd.fst : Int))) <|
 .load (p20.fst, p20.snd + mulN (Int.toNat x1.fst) 2) (.int .i64) fun i21 =>
 .load (p20.fst, p20.snd + mulN (Int.toNat x1.fst) 2 + 1) (.int .i64) fun i22 =>
 .alloc ty_impl_Item [.int .i64 (i21), .int .i64 (i22)] fun n23 =>
 .held (p17.fst, p17.snd + 2) (.sl (s18.fst) (s18.snd.fst) (s18.snd.snd)) <|
 .append ty_impl_Item 2 16 [.int .i64 (0), .int .i64 (0)] ((s18.fst), s18.snd.fst, s18.snd.snd) ((some (n23, 0)), 1, 1) fun s24 =>
 .nonnil (r6.fst) fun p25 =>
 .store (p25.fst, p25.snd + 2) (.sl (s24.fst) (s24.snd.fst) (s24.snd.snd)) <|
 .nonnil (r6.fst) fun p26 =>
 .load (p26.fst, p26.snd + 2) (.sl) fun s27 =>
 .nonnil (r11.fst) fun p28 =>
 .load (p28.fst, p28.snd + 2) (.sl) fun s29 =>
 .append ty_impl_Item 2 16 [.int .i64 (0), .int .i64 (0)] ((s27.fst), s27.snd.fst, s27.snd.snd) ((s29.fst), s29.snd.fst, s29.snd.snd) fun s30 =>
 .nonnil (r6.fst) fun p31 =>
 .store (p31.fst, p31.snd + 2) (.sl (s30.fst) (s30.snd.fst) (s30.snd.snd)) <|
 .call fn_ng_leaf [.c (.ptr (r6.fst))] false [.c (.bool)] fun r32 =>
 .bind none (.ite (!r32.fst)
 (.nonnil (r6.fst) fun p33 =>
 .load (p33.fst, p33.snd + 3) (.ptr) fun q34 =>
 .nonnil (r6.fst) fun p35 =>
 .load (p35.fst, p35.snd + 3) (.ptr) fun q36 =>
 .nonnil (q36) fun p37 =>
 .load p37 (.sl) fun s38 =>
 .nonnil (r11.fst) fun p39 =>
 .load (p39.fst, p39.snd + 3) (.ptr) fun q40 =>
 .nonnil (q40) fun p41 =>
 .load p41 (.sl) fun s42 =>
 .append ty_p_btree_node_pub_greenwood_impl_Item 1 8 [.ptr none] ((s38.fst), s38.snd.fst, s38.snd.snd) ((s42.fst), s42.snd.fst, s42.snd.snd) fun s43 =>
 .held (p33.fst, p33.snd + 3) (.ptr (q34)) <|
 .nonnil (q34) fun p44 =>
 .store p44 (.sl (s43.fst) (s43.snd.fst) (s43.snd.snd)) <|
 .done .normal [])
 (.done .normal [])) [] fun x45 =>
 .nonnil (r6.fst) fun p46 =>
 .load (p46.fst, p46.snd + 1) (.int .i64) fun i47 =>
 .nonnil (r11.fst) fun p48 =>
 .load (p48.fst, p48.snd + 1) (.int .i64) fun i49 =>
 .guard (InK IntKind.i64 (i49 + 1)) <|
 .guard (InK IntKind.i64 (i47 + (i49 + 1))) <|
 .nonnil (r6.fst) fun p50 =>
 .store (p50.fst, p50.snd + 1) (.int .i64 (i47 + (i49 + 1))) <|
 .load (a1.fst, a1.snd + 2) (.sl) fun s51 =>
 .guard (((0 : Int) ≤ x1.fst) ∧ ((x1.fst : Int) ≤ (↑s51.snd.fst : Int))) <|
 .load (a1.fst, a1.snd + 2) (.sl) fun s52 =>
 .guard (InK IntKind.i64 (x1.fst + 1)) <|
 .guard (((0 : Int) ≤ x1.fst + 1) ∧ ((x1.fst + 1 : Int) ≤ (↑s52.snd.fst : Int))) <|
 .copy 2 ((slBase s51.fst s51.snd.snd (Int.toNat x1.fst) 2), s51.snd.fst - Int.toNat x1.fst, s51.snd.snd - Int.toNat x1.fst) ((slBase s52.fst s52.snd.snd (x1.fst + 1).toNat 2), s52.snd.fst - (x1.fst + 1).toNat, s52.snd.snd - (x1.fst + 1).toNat) fun m53 =>
 .load (a1.fst, a1.snd + 2) (.sl) fun s54 =>
 .load (a1.fst, a1.snd + 2) (.sl) fun s55 =>
 .guard (InK IntKind.i64 ((↑s55.snd.fst : Int) - 1)) <|
 .load (a0.fst, a0.snd + 7) (.int .i64) fun i56 =>
 .load (a0.fst, a0.snd + 8) (.int .i64) fun i57 =>
 .nonnil (s54.fst) fun p58 =>
 .guard (((0 : Int) ≤ (↑s55.snd.fst : Int) - 1) ∧ (((↑s55.snd.fst : Int) - 1 : Int) < (↑s54.snd.fst : Int))) <|
 .store (p58.fst, p58.snd + mulN ((↑s55.snd.fst : Int) - 1).toNat 2) (.int .i64 (i56)) <|
 .store (p58.fst, p58.snd + mulN ((↑s55.snd.fst : Int) - 1).toNat 2 + 1) (.int .i64 (i57)) <|
 .load (a1.fst, a1.snd + 2) (.sl) fun s59 =>
 .load (a1.fst, a1.snd + 2) (.sl) fun s60 =>
 .guard (InK IntKind.i64 ((↑s60.snd.fst : Int) - 1)) <|
 .guard (((0 : Int) ≤ (↑s60.snd.fst : Int) - 1) ∧ (((↑s60.snd.fst : Int) - 1 : Int) ≤ (↑s59.snd.snd : Int))) <|
 .store (a1.fst, a1.snd + 2) (.sl (slBase s59.fst s59.snd.snd 0 2) (((↑s60.snd.fst : Int) - 1).toNat - 0) (s59.snd.snd - 0)) <|
 .load (a1.fst, a1.snd + 3) (.ptr) fun q61 =>
 .nonnil (q61) fun p62 =>
 .load p62 (.sl) fun s63 =>
 .guard (InK IntKind.i64 (x1.fst + 1)) <|
 .guard (((0 : Int) ≤ x1.fst + 1) ∧ ((x1.fst + 1 : Int) ≤ (↑s63.snd.fst : Int))) <|
 .load (a1.fst, a1.snd + 3) (.ptr) fun q64 =>
 .nonnil (q64) fun p65 =>
 .load p65 (.sl) fun s66 =>
 .guard (InK IntKind.i64 (x1.fst + 2)) <|
 .guard (((0 : Int) ≤ x1.fst + 2) ∧ ((x1.fst + 2 : Int) ≤ (↑s66.snd.fst : Int))) <|
 .copy 1 ((slBase s63.fst s63.snd.snd (x1.fst + 1).toNat 1), s63.snd.fst - (x1.fst + 1).toNat, s63.snd.snd - (x1.fst + 1).toNat) ((slBase s66.fst s66.snd.snd (x1.fst + 2).toNat 1), s66.snd.fst - (x1.fst + 2).toNat, s66.snd.snd - (x1.fst + 2).toNat) fun m67 =>
 .load (a1.fst, a1.snd + 3) (.ptr) fun q68 =>
 .nonnil (q68) fun p69 =>
 .load p69 (.sl) fun s70 =>
 .load (a1.fst, a1.snd + 3) (.ptr) fun q71 =>
 .nonnil (q71) fun p72 =>
 .load p72 (.sl) fun s73 =>
 .guard (InK IntKind.i64 ((↑s73.snd.fst : Int) - 1)) <|
 .nonnil (s70.fst) fun p74 =>
 .guard (((0 : Int) ≤ (↑s73.snd.fst : Int) - 1) ∧ (((↑s73.snd.fst : Int) - 1 : Int) < (↑s70.snd.fst : Int))) <|
 .store (p74.fst, p74.snd + ((↑s73.snd.fst : Int) - 1).toNat) (.ptr none) <|
 .load (a1.fst, a1.snd + 3) (.ptr) fun q75 =>
 .load (a1.fst, a1.snd + 3) (.ptr) fun q76 =>
 .nonnil (q76) fun p77 =>
 .load p77 (.sl) fun s78 =>
 .load (a1.fst, a1.snd + 3) (.ptr) fun q79 =>
 .nonnil (q79) fun p80 =>
 .load p80 (.sl) fun s81 =>
 .guard (InK IntKind.i64 ((↑s81.snd.fst : Int) - 1)) <|
 .guard (((0 : Int) ≤ (↑s81.snd.fst : Int) - 1) ∧ (((↑s81.snd.fst : Int) - 1 : Int) ≤ (↑s78.snd.snd : Int))) <|
 .nonnil (q75) fun p82 =>
 .store p82 (.sl (slBase s78.fst s78.snd.snd 0 1) (((↑s81.snd.fst : Int) - 1).toNat - 0) (s78.snd.snd - 0)) <|
 .done .normal [])
 (.nonnil (r6.fst) fun p83 =>
 .load (p83.fst, p83.snd + 2) (.sl) fun s84 =>
 .nonnil (r11.fst) fun p85 =>
 .load (p85.fst, p85.snd + 2) (.sl) fun s86 =>
 .bind none (.ite (decide ((↑s84.snd.fst : Int) > (↑s86.snd.fst : Int)))
 (.nonnil (r11.fst) fun p87 =>
 .load (p87.fst, p87.snd + 2) (.sl) fun s88 =>
 .load (a0.fst, a0.snd + 7) (.int .i64) fun i89 =>
 .load (a0.fst, a0.snd + 8) (.int .i64) fun i90 =>
 .alloc ty_impl_Item [.int .i64 (i89), .int .i64 (i90)] fun n91 =>
 .held (p87.fst, p87.snd + 2) (.sl (s88.fst) (s88.snd.fst) (s88.snd.snd)) <|
 .append ty_impl_Item 2 16 [.int .i64 (0), .int .i64 (0)] ((s88.fst), s88.snd.fst, s88.snd.snd) ((some (n91, 0)), 1, 1) fun s92 =>
 .nonnil (r11.fst) fun p93 =>
 .store (p93.fst, p93.snd + 2) (.sl (s92.fst) (s92.snd.fst) (s92.snd.snd)) <|
 .nonnil (r11.fst) fun p94 =>
 .load (p94.fst, p94.snd + 2) (.sl) fun s95 =>
 .guard (((0 : Int) ≤ 1) ∧ ((1 : Int) ≤ (↑s95.snd.fst : Int))) <|
 .nonnil (r11.fst) fun p96 =>
 .load (p96.fst, p96.snd + 2) (.sl) fun s97 =>
 .copy 2 ((slBase s95.fst s95.snd.snd 1 2), s95.snd.fst - 1, s95.snd.snd - 1) ((s97.fst), s97.snd.fst, s97.snd.snd) fun m98 =>
 .nonnil (r11.fst) fun p99 =>
 .load (p99.fst, p99.snd + 2) (.sl) fun s100 =>
 .load (a1.fst, a1.snd + 2) (.sl) fun s101 =>
 .nonnil (s101.fst) fun p102 =>
 .guard (((0 : Int) ≤ x1.fst) ∧ ((x1.fst : Int) < (↑s101.snd.fst : Int))) <|
 .load (p102.fst, p102.snd + mulN (Int.toNat x1.fst) 2) (.int .i64) fun i103 =>
 .load (p102.fst, p102.snd + mulN (Int.toNat x1.fst) 2 + 1) (.int .i64) fun i104 =>
 .nonnil (s100.fst) fun p105 =>
 .guard (((0 : Int) ≤ 0) ∧ ((0 : Int) < (↑s100.snd.fst : Int))) <|
 .store (p105.fst, p105.snd) (.int .i64 (i103)) <|
 .store (p105.fst, p105.snd + 1) (.int .i64 (i104)) <|
 .nonnil (r11.fst) fun p106 =>
 .load (p106.fst, p106.snd + 1) (.int .i64) fun i107 =>
 .guard (InK IntKind.i64 (i107 + 1)) <|
 .nonnil (r11.fst) fun p108 =>
 .store (p108.fst, p108.snd + 1) (.int .i64 (i107 + 1)) <|
 .load (a1.fst, a1.snd + 2) (.sl) fun s109 =>
 .nonnil (r6.fst) fun p110 =>
 .load (p110.fst, p110.snd + 2) (.sl) fun s111 =>
 .nonnil (r6.fst) fun p112 =>
 .load (p112.fst, p112.snd + 2) (.sl) fun s113 =>
 .guard (InK IntKind.i64 ((↑s113.snd.fst : Int) - 1)) <|
 .nonnil (s111.fst) fun p114 =>
 .guard (((0 : Int) ≤ (↑s113.snd.fst : Int) - 1) ∧ (((↑s113.snd.fst : Int) - 1 : Int) < (↑s111.snd.fst : Int))) <|
 .load (p114.fst, p114.snd + mulN ((↑s113.snd.fst : Int) - 1).toNat 2) (.int .i64) fun i115 =>
 .load (p114.fst, p114.snd + mulN ((↑s113.snd.fst : Int) - 1).toNat 2 + 1) (.int .i64) fun i116 =>
 .nonnil (s109.fst) fun p117 =>
 .guard (((0 : Int) ≤ x1.fst) ∧ ((x1.fst : Int) < (↑s109.snd.fst : Int))) <|
 .store (p117.fst, p117.snd + mulN (Int.toNat x1.fst) 2) (.int .i64 (i115)) <|
 .store (p117.fst, p117.snd + mulN (Int.toNat x1.fst) 2 + 1) (.int .i64 (i116)) <|
 .nonnil (r6.fst) fun p118 =>
 .load (p118.fst, p118.snd + 2) (.sl) fun s119 =>
 .nonnil (r6.fst) fun p120 =>
 .load (p120.fst, p120.snd + 2) (.sl) fun s121 =>
 .guard (InK IntKind.i64 ((↑s121.snd.fst : Int) - 1)) <|
 .load (a0.fst, a0.snd + 7) (.int .i64) fun i122 =>
 .load (a0.fst, a0.snd + 8) (.int .i64) fun i123 =>
 .nonnil (s119.fst) fun p124 =>
 .guard (((0 : Int) ≤ (↑s121.snd.fst : Int) - 1) ∧ (((↑s121.snd.fst : Int) - 1 : Int) < (↑s119.snd.fst : Int))) <|
 .store (p124.fst, p124.snd + mulN ((↑s121.snd.fst : Int) - 1).toNat 2) (.int .i64 (i122)) <|
 .store (p124.fst, p124.snd + mulN ((↑s121.snd.fst : Int) - 1).toNat 2 + 1) (.int .i64 (i123)) <|
 .nonnil (r6.fst) fun p125 =>
 .load (p125.fst, p125.snd + 2) (.sl) fun s126 =>
 .nonnil (r6.fst) fun p127 =>
 .load (p127.fst, p127.snd + 2) (.sl) fun s128 =>
 .guard (InK IntKind.i64 ((↑s128.snd.fst : Int) - 1)) <|
 .guard (((0 : Int) ≤ (↑s128.snd.fst : Int) - 1) ∧ (((↑s128.snd.fst : Int) - 1 : Int) ≤ (↑s126.snd.snd : Int))) <|
 .nonnil (r6.fst) fun p129 =>
 .store (p129.fst, p129.snd + 2) (.sl (slBase s126.fst s126.snd.snd 0 2) (((↑s128.snd.fst : Int) - 1).toNat - 0) (s126.snd.snd - 0)) <|
 .nonnil (r6.fst) fun p130 =>
 .load (p130.fst, p130.snd + 1) (.int .i64) fun i131 =>
 .guard (InK IntKind.i64 (i131 - 1)) <|
 .nonnil (r6.fst) fun p132 =>
 .store (p132.fst, p132.snd + 1) (.int .i64 (i131 - 1)) <|
 .call fn_ng_leaf [.c (.ptr (r6.fst))] false [.c (.bool)] fun r133 =>
 .bind none (.ite (!r133.fst)
 (.nonnil (r11.fst) fun p134 =>
 .load (p134.fst, p134.snd + 3) (.ptr) fun q135 =>
 .nonnil (r11.fst) fun p136 =>
 .load (p136.fst, p136.snd + 3) (.ptr) fun q137 =>
 .nonnil (q137) fun p138 =>
 .load p138 (.sl) fun s139 =>
 .alloc ty_p_btree_node_pub_greenwood_impl_Item [.ptr none] fun n140 =>
 .held p138 (.sl (s139.fst) (s139.snd.fst) (s139.snd.snd)) <|
 .held (p136.fst, p136.snd + 3) (.ptr (q137)) <|
 .held (p134.fst, p134.snd + 3) (.ptr (q135)) <|
 .append ty_p_btree_node_pub_greenwood_impl_Item 1 8 [.ptr none] ((s139.fst), s139.snd.fst, s139.snd.snd) ((some (n140, 0)), 1, 1) fun s141 =>
 .held (p134.fst, p134.snd + 3) (.ptr (q135)) <|
 .nonnil (q135) fun p142 =>
 .store p142 (.sl (s141.fst) (s141.snd.fst) (s141.snd.snd)) <|
 .nonnil (r11.fst) fun p143 =>
 .load (p143.fst, p143.snd + 3) (.ptr) fun q144 =>
 .nonnil (q144) fun p145 =>
 .load p145 (.sl) fun s146 =>
 .guard (((0 : Int) ≤ 1) ∧ ((1 : Int) ≤ (↑s146.snd.fst : Int))) <|
 .nonnil (r11.fst) fun p147 =>
 .load (p147.fst, p147.snd + 3) (.ptr) fun q148 =>
 .nonnil (q148) fun p149 =>
 .load p149 (.sl) fun s150 =>
 .copy 1 ((slBase s146.fst s146.snd.snd 1 1), s146.snd.fst - 1, s146.snd.snd - 1) ((s150.fst), s150.snd.fst, s150.snd.snd) fun m151 =>
 .nonnil (r11.fst) fun p152 =>
 .load (p152.fst, p152.snd + 3) (.ptr) fun q153 =>
 .nonnil (q153) fun p154 =>
 .load p154 (.sl) fun s155 =>
 .nonnil (r6.fst) fun p156 =>
 .load (p156.fst, p156.snd + 3) (.ptr) fun q157 =>
 .nonnil (q157) fun p158 =>
 .load p158 (.sl) fun s159 =>
 .nonnil (r6.fst) fun p160 =>
 .load (p160.fst, p160.snd + 3) (.ptr) fun q161 =>
 .nonnil (q161) fun p162 =>
 .load p162 (.sl) fun s163 =>
 .guard (InK IntKind.i64 ((↑s163.snd.fst : Int) - 1)) <|
 .nonnil (s159.fst) fun p164 =>
 .guard (((0 : Int) ≤ (↑s163.snd.fst : Int) - 1) ∧ (((↑s163.snd.fst : Int) - 1 : Int) < (↑s159.snd.fst : Int))) <|
 .load (p164.fst, p164.snd + ((↑s163.snd.fst : Int) - 1).toNat) (.ptr) fun q165 =>
 .nonnil (s155.fst) fun p166 =>
 .guard (((0 : Int) ≤ 0) ∧ ((0 : Int) < (↑s155.snd.fst : Int))) <|
 .store (p166.fst, p166.snd) (.ptr (q165)) <|
 .nonnil (r6.fst) fun p167 =>
 .load (p167.fst, p167.snd + 3) (.ptr) fun q168 =>
 .nonnil (q168) fun p169 =>
 .load p169 (.sl) fun s170 =>
 .nonnil (r6.fst) fun p171 =>
 .load (p171.fst, p171.snd + 3) (.ptr) fun q172 =>
 .nonnil (q172) fun p173 =>
 .load p173 (.sl) fun s174 =>
 .guard (InK IntKind.i64 ((↑s174.snd.fst : Int) - 1)) <|
 .nonnil (s170.fst) fun p175 =>
 .guard (((0 : Int) ≤ (↑s174.snd.fst : Int) - 1) ∧ (((↑s174.snd.fst : Int) - 1 : Int) < (↑s170.snd.fst : Int))) <|
 .store (p175.fst, p175.snd + ((↑s174.snd.fst : Int) - 1).toNat) (.ptr none) <|
 .nonnil (r6.fst) fun p176 =>
 .load (p176.fst, p176.snd + 3) (.ptr) fun q177 =>
 .nonnil (r6.fst) fun p178 =>
 .load (p178.fst, p178.snd + 3) (.ptr) fun q179 =>
 .nonnil (q179) fun p180 =>
 .load p180 (.sl) fun s181 =>
 .nonnil (r6.fst) fun p182 =>
 .load (p182.fst, p182.snd + 3) (.ptr) fun q183 =>
 .nonnil (q183) fun p184 =>
 .load p184 (.sl) fun s185 =>
 .guard (InK IntKind.i64 ((↑s185.snd.fst : Int) - 1)) <|
 .guard (((0 : Int) ≤ (↑s185.snd.fst : Int) - 1) ∧ (((↑s185.snd.fst : Int) - 1 : Int) ≤ (↑s181.snd.snd : Int))) <|
 .nonnil (q177) fun p186 =>
 .store p186 (.sl (slBase s181.fst s181.snd.snd 0 1) (((↑s185.snd.fst : Int) - 1).toNat - 0) (s181.snd.snd - 0)) <|
 .nonnil (r6.fst) fun p187 =>
 .load (p187.fst, p187.snd + 1) (.int .i64) fun i188 =>
 .nonnil (r11.fst) fun p189 =>
 .load (p189.fst, p189.snd + 3) (.ptr) fun q190 =>
 .nonnil (q190) fun p191 =>
 .load p191 (.sl) fun s192 =>
 .nonnil (s192.fst) fun p193 =>
 .guard (((0 : Int) ≤ 0) ∧ ((0 : Int) < (↑s192.snd.fst : Int))) <|
 .load (p193.fst, p193.snd) (.ptr) fun q194 =>
 .nonnil (q194) fun p195 =>
 .load (p195.fst, p195.snd + 1) (.int .i64) fun i196 =>
 .guard (InK IntKind.i64 (i188 - i196)) <|
 .nonnil (r6.fst) fun p197 =>
 .store (p197.fst, p197.snd + 1) (.int .i64 (i188 - i196)) <|
 .nonnil (r11.fst) fun p198 =>
 .load (p198.fst, p198.snd + 1) (.int .i64) fun i199 =>
 .nonnil (r11.fst) fun p200 =>
 .load (p200.fst, p200.snd + 3) (.ptr) fun q201 =>
 .nonnil (q201) fun p202 =>
 .load p202 (.sl) fun s203 =>
 .nonnil (s203.fst) fun p204 =>
 .guard (((0 : Int) ≤ 0) ∧ ((0 : Int) < (↑s203.snd.fst : Int))) <|
 .load (p204.fst, p204.snd) (.ptr) fun q205 =>
 .nonnil (q205) fun p206 =>
 .load (p206.fst, p206.snd + 1) (.int .i64) fun i207 =>
 .guard (InK IntKind.i64 (i199 + i207)) <|
 .nonnil (r11.fst) fun p208 =>
 .store (p208.fst, p208.snd + 1) (.int .i64 (i199 + i207)) <|
 .done .normal [])
 (.done .normal [])) [] fun x209 =>
 .done .normal [])
 (.nonnil (r6.fst) fun p210 =>
 .load (p210.fst, p210.snd + 2) (.sl) fun s211 =>
 .load (a1.fst, a1.snd + 2) (.sl) fun s212 =>
 .nonnil (s212.fst) fun p213 =>
 .guard (((0 : Int) ≤ x1.fst) ∧ ((x1.fst : Int) < (↑s212.snd.fst : Int))) <|
 .load (p213.fst, p213.snd + mulN (Int.toNat x1.fst) 2) (.int .i64) fun i214 =>
 .load (p213.fst, p213.snd + mulN (Int.toNat x1.fst) 2 + 1) (.int .i64) fun i215 =>
 .alloc ty_impl_Item [.int .i64 (i214), .int .i64 (i215)] fun n216 =>
 .held (p210.fst, p210.snd + 2) (.sl (s211.fst) (s211.snd.fst) (s211.snd.snd)) <|
 .append ty_impl_Item 2 16 [.int .i64 (0), .int .i64 (0)] ((s211.fst), s211.snd.fst, s211.snd.snd) ((some (n216, 0)), 1, 1) fun s217 =>
 .nonnil (r6.fst) fun p218 =>
 .store (p218.fst, p218.snd + 2) (.sl (s217.fst) (s217.snd.fst) (s217.snd.snd)) <|
 .nonnil (r6.fst) fun p219 =>
 .load (p219.fst, p219.snd + 1) (.int .i64) fun i220 =>
 .guard (InK IntKind.i64 (i220 + 1)) <|
 .nonnil (r6.fst) fun p221 =>
 .store (p221.fst, p221.snd + 1) (.int .i64 (i220 + 1)) <|
 .load (a1.fst, a1.snd + 2) (.sl) fun s222 =>
 .nonnil (r11.fst) fun p223 =>
 .load (p223.fst, p223.snd + 2) (.sl) fun s224 =>
 .nonnil (s224.fst) fun p225 =>
 .guard (((0 : Int) ≤ 0) ∧ ((0 : Int) < (↑s224.snd.fst : Int))) <|
 .load (p225.fst, p225.snd) (.int .i64) fun i226 =>
 .load (p225.fst, p225.snd + 1) (.int .i64) fun i227 =>
 .nonnil (s222.fst) fun p228 =>
 .guard (((0 : Int) ≤ x1.fst) ∧ ((x1.fst : Int) < (↑s222.snd.fst : Int))) <|
 .store (p228.fst, p228.snd + mulN (Int.toNat x1.fst) 2) (.int .i64 (i226)) <|
 .store (p228.fst, p228.snd + mulN (Int.toNat x1.fst) 2 + 1) (.int .i64 (i227)) <|
 .nonnil (r11.fst) fun p229 =>
 .load (p229.fst, p229.snd + 2) (.sl) fun s230 =>
 .nonnil (r11.fst) fun p231 =>
 .load (p231.fst, p231.snd + 2) (.sl) fun s232 =>
 .guard (((0 : Int) ≤ 1) ∧ ((1 : Int) ≤ (↑s232.snd.fst : Int))) <|
 .copy 2 ((s230.fst), s230.snd.fst, s230.snd.snd) ((slBase s232.fst s232.snd.snd 1 2), s232.snd.fst - 1, s232.snd.snd - 1) fun m233 =>
 .nonnil (r11.fst) fun p234 =>
 .load (p234.fst, p234.snd + 2) (.sl) fun s235 =>
 .nonnil (r11.fst) fun p236 =>
 .load (p236.fst, p236.snd + 2) (.sl) fun s237 =>
 .guard (InK IntKind.i64 ((↑s237.snd.fst : Int) - 1)) <|
 .load (a0.fst, a0.snd + 7) (.int .i64) fun i238 =>
 .load (a0.fst, a0.snd + 8) (.int .i64) fun i239 =>
 .nonnil (s235.fst) fun p240 =>
 .guard (((0 : Int) ≤ (↑s237.snd.fst : Int) - 1) ∧ (((↑s237.snd.fst : Int) - 1 : Int) < (↑s235.snd.fst : Int))) <|
 .store (p240.fst, p240.snd + mulN ((↑s237.snd.fst : Int) - 1).toNat 2) (.int .i64 (i238)) <|
 .store (p240.fst, p240.snd + mulN ((↑s237.snd.fst : Int) - 1).toNat 2 + 1) (.int .i64 (i239)) <|
 .nonnil (r11.fst) fun p241 =>
 .load (p241.fst, p241.snd + 2) (.sl) fun s242 =>
 .nonnil (r11.fst) fun p243 =>
 .load (p243.fst, p243.snd + 2) (.sl) fun s244 =>
 .guard (InK IntKind.i64 ((↑s244.snd.fst : Int) - 1)) <|
 .guard (((0 : Int) ≤ (↑s244.snd.fst : Int) - 1) ∧ (((↑s244.snd.fst : Int) - 1 : Int) ≤ (↑s242.snd.snd : Int))) <|
 .nonnil (r11.fst) fun p245 =>
 .store (p245.fst, p245.snd + 2) (.sl (slBase s242.fst s242.snd.snd 0 2) (((↑s244.snd.fst : Int) - 1).toNat - 0) (s242.snd.snd - 0)) <|
 .nonnil (r11.fst) fun p246 =>
 .load (p246.fst, p246.snd + 1) (.int .i64) fun i247 =>
 .guard (InK IntKind.i64 (i247 - 1)) <|
 .nonnil (r11.fst) fun p248 =>
 .store (p248.fst, p248.snd + 1) (.int .i64 (i247 - 1)) <|
 .call fn_ng_leaf [.c (.ptr (r6.fst))] false [.c (.bool)] fun r249 =>
 .bind none (.ite (!r249.fst)
 (.nonnil (r6.fst) fun p250 =>
 .load (p250.fst, p250.snd + 3) (.ptr) fun q251 =>
 .nonnil (r6.fst) fun p252 =>
 .load (p252.fst, p252.snd + 3) (.ptr) fun q253 =>
 .nonnil (q253) fun p254 =>
 .load p254 (.sl) fun s255 =>
 .nonnil (r11.fst) fun p256 =>
 .load (p256.fst, p256.snd + 3) (.ptr) fun q257 =>
 .nonnil (q257) fun p258 =>
 .load p258 (.sl) fun s259 =>
 .nonnil (s259.fst) fun p260 =>
 .guard (((0 : Int) ≤ 0) ∧ ((0 : Int) < (↑s259.snd.fst : Int))) <|
 .load (p260.fst, p260.snd) (.ptr) fun q261 =>
 .alloc ty_p_btree_node_pub_greenwood_impl_Item [.ptr (q261)] fun n262 =>
 .held p254 (.sl (s255.fst) (s255.snd.fst) (s255.snd.snd)) <|
 .held (p252.fst, p252.snd + 3) (.ptr (q253)) <|
 .held (p250.fst, p250.snd + 3) (.ptr (q251)) <|
 .append ty_p_btree_node_pub_greenwood_impl_Item 1 8 [.ptr none] ((s255.fst), s255.snd.fst, s255.snd.snd) ((some (n262, 0)), 1, 1) fun s263 =>
 .held (p250.fst, p250.snd + 3) (.ptr (q251)) <|
 .nonnil (q251) fun p264 =>
 .store p264 (.sl (s263.fst) (s263.snd.fst) (s263.snd.snd)) <|
 .nonnil (r11.fst) fun p265 =>
 .load (p265.fst, p265.snd + 3) (.ptr) fun q266 =>
 .nonnil (q266) fun p267 =>
 .load p267 (.sl) fun s268 =>
 .nonnil (r11.fst) fun p269 =>
 .load (p269.fst, p269.snd + 3) (.ptr) fun q270 =>
 .nonnil (q270) fun p271 =>
 .load p271 (.sl) fun s272 =>
 .guard (((0 : Int) ≤ 1) ∧ ((1 : Int) ≤ (↑s272.snd.fst : Int))) <|
 .copy 1 ((s268.fst), s268.snd.fst, s268.snd.snd) ((slBase s272.fst s272.snd.snd 1 1), s272.snd.fst - 1, s272.snd.snd - 1) fun m273 =>
 .nonnil (r11.fst) fun p274 =>
 .load (p274.fst, p274.snd + 3) (.ptr) fun q275 =>
 .nonnil (q275) fun p276 =>
 .load p276 (.sl) fun s277 =>
 .nonnil (r11.fst) fun p278 =>
 .load (p278.fst, p278.snd + 3) (.ptr) fun q279 =>
 .nonnil (q279) fun p280 =>
 .load p280 (.sl) fun s281 =>
 .guard (InK IntKind.i64 ((↑s281.snd.fst : Int) - 1)) <|
 .nonnil (s277.fst) fun p282 =>
 .guard (((0 : Int) ≤ (↑s281.snd.fst : Int) - 1) ∧ (((↑s281.snd.fst : Int) - 1 : Int) < (↑s277.snd.fst : Int))) <|
 .store (p282.fst, p282.snd + ((↑s281.snd.fst : Int) - 1).toNat) (.ptr none) <|
 .nonnil (r11.fst) fun p283 =>
 .load (p283.fst, p283.snd + 3) (.ptr) fun q284 =>
 .nonnil (r11.fst) fun p285 =>
 .load (p285.fst, p285.snd + 3) (.ptr) fun q286 =>
 .nonnil (q286) fun p287 =>
 .load p287 (.sl) fun s288 =>
 .nonnil (r11.fst) fun p289 =>
 .load (p289.fst, p289.snd + 3) (.ptr) fun q290 =>
 .nonnil (q290) fun p291 =>
 .load p291 (.sl) fun s292 =>
 .guard (InK IntKind.i64 ((↑s292.snd.fst : Int) - 1)) <|
 .guard (((0 : Int) ≤ (↑s292.snd.fst : Int) - 1) ∧ (((↑s292.snd.fst : Int) - 1 : Int) ≤ (↑s288.snd.snd : Int))) <|
 .nonnil (q284) fun p293 =>
 .store p293 (.sl (slBase s288.fst s288.snd.snd 0 1) (((↑s292.snd.fst : Int) - 1).toNat - 0) (s288.snd.snd - 0)) <|
 .nonnil (r6.fst) fun p294 =>
 .load (p294.fst, p294.snd + 1) (.int .i64) fun i295 =>
 .nonnil (r6.fst) fun p296 =>
 .load (p296.fst, p296.snd + 3) (.ptr) fun q297 =>
 .nonnil (q297) fun p298 =>
 .load p298 (.sl) fun s299 =>
 .nonnil (r6.fst) fun p300 =>
 .load (p300.fst, p300.snd + 3) (.ptr) fun q301 =>
 .nonnil (q301) fun p302 =>
 .load p302 (.sl) fun s303 =>
 .guard (InK IntKind.i64 ((↑s303.snd.fst : Int) - 1)) <|
 .nonnil (s299.fst) fun p304 =>
 .guard (((0 : Int) ≤ (↑s303.snd.fst : Int) - 1) ∧ (((↑s303.snd.fst : Int) - 1 : Int) < (↑s299.snd.fst : Int))) <|
 .load (p304.fst, p304.snd + ((↑s303.snd.fst : Int) - 1).toNat) (.ptr) fun q305 =>
 .nonnil (q305) fun p306 =>
 .load (p306.fst, p306.snd + 1) (.int .i64) fun i307 =>
 .guard (InK IntKind.i64 (i295 + i307)) <|
 .nonnil (r6.fst) fun p308 =>
 .store (p308.fst, p308.snd + 1) (.int .i64 (i295 + i307)) <|
 .nonnil (r11.fst) fun p309 =>
 .load (p309.fst, p309.snd + 1) (.int .i64) fun i310 =>
 .nonnil (r6.fst) fun p311 =>
 .load (p311.fst, p311.snd + 3) (.ptr) fun q312 =>
 .nonnil (q312) fun p313 =>
 .load p313 (.sl) fun s314 =>
 .nonnil (r6.fst) fun p315 =>
 .load (p315.fst, p315.snd + 3) (.ptr) fun q316 =>
 .nonnil (q316) fun p317 =>
 .load p317 (.sl) fun s318 =>
 .guard (InK IntKind.i64 ((↑s318.snd.fst : Int) - 1)) <|
 .nonnil (s314.fst) fun p319 =>
 .guard (((0 : Int) ≤ (↑s318.snd.fst : Int) - 1) ∧ (((↑s318.snd.fst : Int) - 1 : Int) < (↑s314.snd.fst : Int))) <|
 .load (p319.fst, p319.snd + ((↑s318.snd.fst : Int) - 1).toNat) (.ptr) fun q320 =>
 .nonnil (q320) fun p321 =>
 .load (p321.fst, p321.snd + 1) (.int .i64) fun i322 =>
 .guard (InK IntKind.i64 (i310 - i322)) <|
 .nonnil (r11.fst) fun p323 =>
 .store (p323.fst, p323.snd + 1) (.int .i64 (i310 - i322)) <|
 .done .normal [])
 (.done .normal [])) [] fun x324 =>
 .done .normal [])) [] fun x325 =>
 .done .normal [])) [] fun x326 =>
 .done .ret []
theorem den_tg_nodeRebalance (a0 : PA) (a1 : PA) (a2 : Int) : denFn Try.prog Try.f68 [.c (.addr a0), .c (.addr a1), .c (.int .i64 a2)] = M_tg_nodeRebalance a0 a1 a2 := by kernel_rfl
theorem hc_tg_nodeRebalance (a0 : PA) (a1 : PA) (a2 : Int) {h : H} {R : Value → H → Prop} (hw : wp Try.prog (M_tg_nodeRebalance a0 a1 a2) (Ret R) h) : HC Try.prog fn_tg_nodeRebalance (List.map AV.val [.c (.addr a0), .c (.addr a1), .c (.int .i64 a2)]).toArray h R :=
  den_calls hmix Try.func68 (of_decide_eq_true rfl) (by rw [den_tg_nodeRebalance]; exact hw)
end Go.Proofs.Ytegnpimlfphncaa
