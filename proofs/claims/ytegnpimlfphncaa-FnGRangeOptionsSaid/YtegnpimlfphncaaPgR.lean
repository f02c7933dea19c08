/-
  Functions of the translation as typed programs, and that each is its function's reading. Written by a program of ours (gen2.py). Conditions: none.
-/
import Derived.Test.YtegnpimlfphncaaNm
namespace Go.Proofs.Ytegnpimlfphncaa
open Go
set_option maxRecDepth 100000
set_option linter.unusedVariables false
def M_tg_Items (a0 : PA) : M :=
 .call fn_tg_items [.c (.addr a0), .c (.ff)] false [.c (.sl)] fun r0 =>
 .done .ret [.c (.sl (r0.fst.fst) (r0.fst.snd.fst) (r0.fst.snd.snd))]
theorem den_tg_Items (a0 : PA) : denFn Try.prog Try.f22 [.c (.addr a0)] = M_tg_Items a0 := by kernel_rfl
theorem hc_tg_Items (a0 : PA) {h : H} {R : Value → H → Prop} (hw : wp Try.prog (M_tg_Items a0) (Ret R) h) : HC Try.prog fn_tg_Items (List.map AV.val [.c (.addr a0)]).toArray h R :=
  den_calls hmix Try.func22 (of_decide_eq_true rfl) (by rw [den_tg_Items]; exact hw)
def M_tg_Len (a0 : PA) : M :=
 .load (a0.fst, a0.snd + 3) (.int .i64) fun i0 =>
 .done .ret [.c (.int .i64 (i0))]
theorem den_tg_Len (a0 : PA) : denFn Try.prog Try.f56 [.c (.addr a0)] = M_tg_Len a0 := by kernel_rfl
theorem hc_tg_Len (a0 : PA) {h : H} {R : Value → H → Prop} (hw : wp Try.prog (M_tg_Len a0) (Ret R) h) : HC Try.prog fn_tg_Len (List.map AV.val [.c (.addr a0)]).toArray h R :=
  den_calls hmix Try.func56 (of_decide_eq_true rfl) (by rw [den_tg_Len]; exact hw)
def M_tg_items (a0 : PA) (a1 : Bool) : M :=
 .call fn_tg_lock [.c (.addr a0), .c (.bool (a1))] false [.c (.bool)] fun r0 =>
 .bind none (.ite (r0.fst)
 (.fail)
 (.done .normal [])) [] fun x1 =>
 .call fn_tg_Len [.c (.addr a0)] false [.c (.int .i64)] fun r2 =>
 .make ty_impl_Item 2 16 [.int .i64 (0), .int .i64 (0)] (0) (r2.fst) fun s3 =>
 .load (a0.fst, a0.snd + 2) (.ptr) fun q4 =>
 .bind none (.ite (!Option.isNone q4)
 (.call fn_tg_nodeItems [.c (.addr a0), .c (.addr (a0.fst, a0.snd + 2)), .c (.sl (s3.fst) (s3.snd.fst) (s3.snd.snd)), .c (.bool (a1))] false [.c (.sl)] fun r5 =>
 .done .normal [.c (.sl (r5.fst.fst) (r5.fst.snd.fst) (r5.fst.snd.snd))])
 (.done .normal [.c (.sl (s3.fst) (s3.snd.fst) (s3.snd.snd))])) [.c (.sl)] fun x6 =>
 .done .ret [.c (.sl (x6.fst.fst) (x6.fst.snd.fst) (x6.fst.snd.snd))]
theorem den_tg_items (a0 : PA) (a1 : Bool) : denFn Try.prog Try.f35 [.c (.addr a0), .c (.bool a1)] = M_tg_items a0 a1 := by kernel_rfl
theorem hc_tg_items (a0 : PA) (a1 : Bool) {h : H} {R : Value → H → Prop} (hw : wp Try.prog (M_tg_items a0 a1) (Ret R) h) : HC Try.prog fn_tg_items (List.map AV.val [.c (.addr a0), .c (.bool a1)]).toArray h R :=
  den_calls hmix Try.func35 (of_decide_eq_true rfl) (by rw [den_tg_items]; exact hw)
def M_tg_nodeItems (a0 : PA) (a1 : PA) (a2p : Option PA) (a2l : Nat) (a2c : Nat) (a3 : Bool) : M :=
 .call fn_tg_isoLoad [.c (.addr a0), .c (.addr a1), .c (.bool (a3))] false [.c (.ptr)] fun r0 =>
 .call fn_ng_leaf [.c (.ptr (r0.fst))] false [.c (.bool)] fun r1 =>
 .ite (r1.fst)
 (.nonnil (r0.fst) fun p2 =>
 .load (p2.fst, p2.snd + 2) (.sl) fun s3 =>
 .append ty_impl_Item 2 16 [.int .i64 (0), .int .i64 (0)] ((a2p), a2l, a2c) ((s3.fst), s3.snd.fst, s3.snd.snd) fun s4 =>
 .done .ret [.c (.sl (s4.fst) (s4.snd.fst) (s4.snd.snd))])
 (.bind (some 0) (.loop [.c (.int .i64), .c (.sl)] [.c (.int .i64 (0)), .c (.sl (a2p) (a2l) (a2c))] fun y5 =>
 .nonnil (r0.fst) fun p6 =>
 .load (p6.fst, p6.snd + 2) (.sl) fun s7 =>
 .ite (decide (y5.fst < (↑s7.snd.fst : Int)))
 (.nonnil (r0.fst) fun p8 =>
 .load (p8.fst, p8.snd + 3) (.ptr) fun q9 =>
 .nonnil (q9) fun p10 =>
 .load p10 (.sl) fun s11 =>
 .nonnil (s11.fst) fun p12 =>
 .guard (((0 : Int) ≤ y5.fst) ∧ ((y5.fst : Int) < (↑s11.snd.fst : Int))) <|
 .call fn_tg_nodeItems [.c (.addr a0), .c (.addr (p12.fst, p12.snd + Int.toNat y5.fst)), .c (.sl (y5.snd.fst.fst) (y5.snd.fst.snd.fst) (y5.snd.fst.snd.snd)), .c (.bool (a3))] false [.c (.sl)] fun r13 =>
 .nonnil (r0.fst) fun p14 =>
 .load (p14.fst, p14.snd + 2) (.sl) fun s15 =>
 .nonnil (s15.fst) fun p16 =>
 .guard (((0 : Int) ≤ y5.fst) ∧ ((y5.fst : Int) < (↑s15.snd.fst : Int))) <|
 .load (p16.fst, p16.snd + mulN (Int.toNat y5.fst) 2) (.int .i64) fun i17 =>
 .load (p16.fst, p16.snd + mulN (Int.toNat y5.fst) 2 + 1) (.int .i64) fun i18 =>
 .alloc ty_impl_Item [.int .i64 (i17), .int .i64 (i18)] fun n19 =>
 .append ty_impl_Item 2 16 [.int .i64 (0), .int .i64 (0)] ((r13.fst.fst), r13.fst.snd.fst, r13.fst.snd.snd) ((some (n19, 0)), 1, 1) fun s20 =>
 .guard (InK IntKind.i64 (y5.fst + 1)) <|
 .done .normal [.c (.int .i64 (y5.fst + 1)), .c (.sl (s20.fst) (s20.snd.fst) (s20.snd.snd))])
 (.done (.exit 0) [.c (.sl (y5.snd.fst.fst) (y5.snd.fst.snd.fst) (y5.snd.fst.snd.snd))])) [.c (.sl)] fun x21 =>
 .nonnil (r0.fst) fun p22 =>
 .load (p22.fst, p22.snd + 3) (.ptr) fun q23 =>
 .nonnil (q23) fun p24 =>
 .load p24 (.sl) fun s25 =>
 .nonnil (r0.fst) fun p26 =>
 .load (p26.fst, p26.snd + 3) (.ptr) fun q27 =>
 .nonnil (q27) fun p28 =>
 .load p28 (.sl) fun s29 =>
 .guard (InK IntKind.i64 ((↑s29.snd.fst : Int) - 1)) <|
 .nonnil (s25.fst) fun p30 =>
 .guard (((0 : Int) ≤ (↑s29.snd.fst : Int) - 1) ∧ (((↑s29.snd.fst : Int) - 1 : Int) < (↑s25.snd.fst : Int))) <|
 .call fn_tg_nodeItems [.c (.addr a0), .c (.addr (p30.fst, p30.snd + ((↑s29.snd.fst : Int) - 1).toNat)), .c (.sl (x21.fst.fst) (x21.fst.snd.fst) (x21.fst.snd.snd)), .c (.bool (a3))] false [.c (.sl)] fun r31 =>
 .done .ret [.c (.sl (r31.fst.fst) (r31.fst.snd.fst) (r31.fst.snd.snd))])
theorem den_tg_nodeItems (a0 : PA) (a1 : PA) (a2p : Option PA) (a2l : Nat) (a2c : Nat) (a3 : Bool) : denFn Try.prog Try.f57 [.c (.addr a0), .c (.addr a1), .c (.sl a2p a2l a2c), .c (.bool a3)] = M_tg_nodeItems a0 a1 a2p a2l a2c a3 := by kernel_rfl
theorem hc_tg_nodeItems (a0 : PA) (a1 : PA) (a2p : Option PA) (a2l : Nat) (a2c : Nat) (a3 : Bool) {h : H} {R : Value → H → Prop} (hw : wp Try.prog (M_tg_nodeItems a0 a1 a2p a2l a2c a3) (Ret R) h) : HC Try.prog fn_tg_nodeItems (List.map AV.val [.c (.addr a0), .c (.addr a1), .c (.sl a2p a2l a2c), .c (.bool a3)]).toArray h R :=
  den_calls hmix Try.func57 (of_decide_eq_true rfl) (by rw [den_tg_nodeItems]; exact hw)
end Go.Proofs.Ytegnpimlfphncaa
