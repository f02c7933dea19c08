/-
  The law FnExactWPops. Conditions: none.
-/
import Derived.Test.YtgniflegbdeokaaLawWA
import Derived.Test.YtgniflegbdeokaaPqmw
set_option linter.unusedVariables false
set_option linter.unusedSimpArgs false
set_option linter.unusedSectionVars false
set_option maxRecDepth 100000
namespace Go.Proofs.Ytgniflegbdeokaa
open Go
def M_laws_fit (a0 : Int) : M :=
  .bind none (.ite (decide (a0 > 0))
    (.call fn_spec_Fits [.c (.int .i64 (a0))] false [.c (.bool)] fun r0 =>
      .done .normal [.c (.bool (r0.fst))])
    (.done .normal [.c (.ff)])) [.c (.bool)] fun x1 =>
  .done .ret [.c (.bool (x1.fst))]
theorem den_laws_fit (a0 : Int) : denFn Try.prog Try.f26 [.c (.int .i64 a0)] = M_laws_fit a0 := by kernel_rfl
theorem hc_laws_fit (a0 : Int) {h : H} {R : Value → H → Prop} (hw : wp Try.prog (M_laws_fit a0) (Ret R) h) : HC Try.prog fn_laws_fit (List.map AV.val [.c (.int .i64 a0)]).toArray h R :=
  den_calls hmix Try.func26 (of_decide_eq_true rfl) (by rw [den_laws_fit]; exact hw)
def M_impl_popped (a0 : PA) (a1 : Bool) : M :=
  .ite (a1)
  (.call fn_mw_PopMax [.c (.addr a0)] true [.c (.str), .c (.int .i64), .c (.bool)] fun r0 =>
    .done .ret [.c (.str (r0.fst)), .c (.int .i64 (r0.snd.fst)), .c (.bool (r0.snd.snd.fst))])
  (.call fn_mw_PopMin [.c (.addr a0)] true [.c (.str), .c (.int .i64), .c (.bool)] fun r1 =>
    .done .ret [.c (.str (r1.fst)), .c (.int .i64 (r1.snd.fst)), .c (.bool (r1.snd.snd.fst))])
theorem den_impl_popped (a0 : PA) (a1 : Bool) : denFn Try.prog Try.f79 [.c (.addr a0), .c (.bool a1)] = M_impl_popped a0 a1 := by kernel_rfl
theorem hc_impl_popped (a0 : PA) (a1 : Bool) {h : H} {R : Value → H → Prop} (hw : wp Try.prog (M_impl_popped a0 a1) (Ret R) h) : HC Try.prog fn_impl_popped (List.map AV.val [.c (.addr a0), .c (.bool a1)]).toArray h R :=
  den_calls hmix Try.func79 (of_decide_eq_true rfl) (by rw [den_impl_popped]; exact hw)
def M_impl_allWords (a0 : PA) : M :=
  .alloc ty_sl_impl_Word [.sl none (0) (0)] fun n0 =>
  .call fn_impl_words [.c (.addr (n0, 0)), .c (.int .i64 (0))] false [.c (.raw)] fun r1 =>
  .call fn_mw_Scan [.c (.addr a0), .c (.raw (r1.fst))] true [] fun r2 =>
  .load (n0, 0) (.sl) fun s3 =>
  .done .ret [.c (.sl (s3.fst) (s3.snd.fst) (s3.snd.snd))]
theorem den_impl_allWords (a0 : PA) : denFn Try.prog Try.f80 [.c (.addr a0)] = M_impl_allWords a0 := by kernel_rfl
theorem hc_impl_allWords (a0 : PA) {h : H} {R : Value → H → Prop} (hw : wp Try.prog (M_impl_allWords a0) (Ret R) h) : HC Try.prog fn_impl_allWords (List.map AV.val [.c (.addr a0)]).toArray h R :=
  den_calls hmix Try.func80 (of_decide_eq_true rfl) (by rw [den_impl_allWords]; exact hw)
def M_impl_WPops (a0 : Int) (a1p : Option PA) (a1l : Nat) (a1c : Nat) (a2p : Option PA) (a2l : Nat) (a2c : Nat) : M :=
  .call fn_impl_growWords [.c (.int .i64 (a0)), .c (.sl (a1p) (a1l) (a1c))] false [.c (.ptr)] fun r0 =>
  .bind (some 0) (.loop [.c (.int .i64), .c (.sl), .c (.sl)] [.c (.int .i64 (0)), .c (.sl none (0) (0)), .c (.sl none (0) (0))] fun y1 =>
      .ite (decide (y1.fst < (↑a2l : Int)))
      (.nonnil (a2p) fun p2 =>
        .guard (((0 : Int) ≤ y1.fst) ∧ ((y1.fst : Int) < (↑a2l : Int))) <|
        .load (p2.fst, p2.snd + Int.toNat y1.fst) (.bool) fun b3 =>
        .call fn_impl_popped [.c (.ptr (r0.fst)), .c (.bool (b3))] true [.c (.str), .c (.int .i64), .c (.bool)] fun r4 =>
        .alloc ty_impl_Word [.str (r4.fst), .int .i64 (r4.snd.fst)] fun n5 =>
        .append ty_impl_Word 2 24 [.str ({ data := #[] }), .int .i64 (0)] ((y1.snd.snd.fst.fst), y1.snd.snd.fst.snd.fst, y1.snd.snd.fst.snd.snd) ((some (n5, 0)), 1, 1) fun s6 =>
        .alloc ty_bool [.bool (r4.snd.snd.fst)] fun n7 =>
        .append ty_bool 1 1 [.ff] ((y1.snd.fst.fst), y1.snd.fst.snd.fst, y1.snd.fst.snd.snd) ((some (n7, 0)), 1, 1) fun s8 =>
        .guard (InK IntKind.i64 (y1.fst + 1)) <|
        .done .normal [.c (.int .i64 (y1.fst + 1)), .c (.sl (s8.fst) (s8.snd.fst) (s8.snd.snd)), .c (.sl (s6.fst) (s6.snd.fst) (s6.snd.snd))])
      (.done (.exit 0) [.c (.sl (y1.snd.fst.fst) (y1.snd.fst.snd.fst) (y1.snd.fst.snd.snd)), .c (.sl (y1.snd.snd.fst.fst) (y1.snd.snd.fst.snd.fst) (y1.snd.snd.fst.snd.snd))])) [.c (.sl), .c (.sl)] fun x9 =>
  .call fn_impl_allWords [.c (.ptr (r0.fst))] false [.c (.sl)] fun r10 =>
  .done .ret [.c (.sl (x9.snd.fst.fst) (x9.snd.fst.snd.fst) (x9.snd.fst.snd.snd)), .c (.sl (x9.fst.fst) (x9.fst.snd.fst) (x9.fst.snd.snd)), .c (.sl (r10.fst.fst) (r10.fst.snd.fst) (r10.fst.snd.snd))]
theorem den_impl_WPops (a0 : Int) (a1p : Option PA) (a1l : Nat) (a1c : Nat) (a2p : Option PA) (a2l : Nat) (a2c : Nat) : denFn Try.prog Try.f51 [.c (.int .i64 a0), .c (.sl a1p a1l a1c), .c (.sl a2p a2l a2c)] = M_impl_WPops a0 a1p a1l a1c a2p a2l a2c := by kernel_rfl
theorem hc_impl_WPops (a0 : Int) (a1p : Option PA) (a1l : Nat) (a1c : Nat) (a2p : Option PA) (a2l : Nat) (a2c : Nat) {h : H} {R : Value → H → Prop} (hw : wp Try.prog (M_impl_WPops a0 a1p a1l a1c a2p a2l a2c) (Ret R) h) : HC Try.prog fn_impl_WPops (List.map AV.val [.c (.int .i64 a0), .c (.sl a1p a1l a1c), .c (.sl a2p a2l a2c)]).toArray h R :=
  den_calls hmix Try.func51 (of_decide_eq_true rfl) (by rw [den_impl_WPops]; exact hw)
def M_spec_WPops (a0p : Option PA) (a0l : Nat) (a0c : Nat) (a1p : Option PA) (a1l : Nat) (a1c : Nat) : M :=
  .call fn_spec_Words [.c (.sl (a0p) (a0l) (a0c))] false [.c (.sl)] fun r0 =>
  .bind (some 0) (.loop [.c (.int .i64), .c (.sl), .c (.sl), .c (.sl)] [.c (.int .i64 (0)), .c (.sl none (0) (0)), .c (.sl none (0) (0)), .c (.sl (r0.fst.fst) (r0.fst.snd.fst) (r0.fst.snd.snd))] fun y1 =>
      .ite (decide (y1.fst < (↑a1l : Int)))
      (.nonnil (a1p) fun p2 =>
        .guard (((0 : Int) ≤ y1.fst) ∧ ((y1.fst : Int) < (↑a1l : Int))) <|
        .load (p2.fst, p2.snd + Int.toNat y1.fst) (.bool) fun b3 =>
        .alloc ty_impl_Word [.str ({ data := #[] }), .int .i64 (0)] fun n4 =>
        .store (n4, 0) (.str ({ data := #[] })) <|
        .store (n4, 1) (.int .i64 (0)) <|
        .bind none (.ite (decide ((↑y1.snd.snd.snd.fst.snd.fst : Int) > 0))
          (.done .normal [.c (.bool (b3))])
          (.done .normal [.c (.ff)])) [.c (.bool)] fun x5 =>
        .bind none (.ite (x5.fst)
          (.guard (InK IntKind.i64 ((↑y1.snd.snd.snd.fst.snd.fst : Int) - 1)) <|
            .nonnil (y1.snd.snd.snd.fst.fst) fun p6 =>
            .guard (((0 : Int) ≤ (↑y1.snd.snd.snd.fst.snd.fst : Int) - 1) ∧ (((↑y1.snd.snd.snd.fst.snd.fst : Int) - 1 : Int) < (↑y1.snd.snd.snd.fst.snd.fst : Int))) <|
            .load (p6.fst, p6.snd + mulN ((↑y1.snd.snd.snd.fst.snd.fst : Int) - 1).toNat 2) (.str) fun i7 =>
            .load (p6.fst, p6.snd + mulN ((↑y1.snd.snd.snd.fst.snd.fst : Int) - 1).toNat 2 + 1) (.int .i64) fun i8 =>
            .guard (InK IntKind.i64 ((↑y1.snd.snd.snd.fst.snd.fst : Int) - 1)) <|
            .guard (((0 : Int) ≤ (↑y1.snd.snd.snd.fst.snd.fst : Int) - 1) ∧ (((↑y1.snd.snd.snd.fst.snd.fst : Int) - 1 : Int) ≤ (↑y1.snd.snd.snd.fst.snd.snd : Int))) <|
            .store (n4, 0) (.str (i7)) <|
            .store (n4, 1) (.int .i64 (i8)) <|
            .done .normal [.c (.sl (slBase y1.snd.snd.snd.fst.fst y1.snd.snd.snd.fst.snd.snd 0 2) (((↑y1.snd.snd.snd.fst.snd.fst : Int) - 1).toNat - 0) (y1.snd.snd.snd.fst.snd.snd - 0))])
          (.bind none (.ite (decide ((↑y1.snd.snd.snd.fst.snd.fst : Int) > 0))
              (.nonnil (y1.snd.snd.snd.fst.fst) fun p9 =>
                .guard (((0 : Int) ≤ 0) ∧ ((0 : Int) < (↑y1.snd.snd.snd.fst.snd.fst : Int))) <|
                .load (p9.fst, p9.snd) (.str) fun i10 =>
                .load (p9.fst, p9.snd + 1) (.int .i64) fun i11 =>
                .guard (((0 : Int) ≤ 1) ∧ ((1 : Int) ≤ (↑y1.snd.snd.snd.fst.snd.fst : Int))) <|
                .store (n4, 0) (.str (i10)) <|
                .store (n4, 1) (.int .i64 (i11)) <|
                .done .normal [.c (.sl (slBase y1.snd.snd.snd.fst.fst y1.snd.snd.snd.fst.snd.snd 1 2) (y1.snd.snd.snd.fst.snd.fst - 1) (y1.snd.snd.snd.fst.snd.snd - 1))])
              (.done .normal [.c (.sl (y1.snd.snd.snd.fst.fst) (y1.snd.snd.snd.fst.snd.fst) (y1.snd.snd.snd.fst.snd.snd))])) [.c (.sl)] fun x12 =>
            .done .normal [.c (.sl (x12.fst.fst) (x12.fst.snd.fst) (x12.fst.snd.snd))])) [.c (.sl)] fun x13 =>
        .load (n4, 0) (.str) fun i14 =>
        .load (n4, 1) (.int .i64) fun i15 =>
        .alloc ty_impl_Word [.str (i14), .int .i64 (i15)] fun n16 =>
        .append ty_impl_Word 2 24 [.str ({ data := #[] }), .int .i64 (0)] ((y1.snd.snd.fst.fst), y1.snd.snd.fst.snd.fst, y1.snd.snd.fst.snd.snd) ((some (n16, 0)), 1, 1) fun s17 =>
        .alloc ty_bool [.bool (decide ((↑y1.snd.snd.snd.fst.snd.fst : Int) > 0))] fun n18 =>
        .append ty_bool 1 1 [.ff] ((y1.snd.fst.fst), y1.snd.fst.snd.fst, y1.snd.fst.snd.snd) ((some (n18, 0)), 1, 1) fun s19 =>
        .guard (InK IntKind.i64 (y1.fst + 1)) <|
        .done .normal [.c (.int .i64 (y1.fst + 1)), .c (.sl (s19.fst) (s19.snd.fst) (s19.snd.snd)), .c (.sl (s17.fst) (s17.snd.fst) (s17.snd.snd)), .c (.sl (x13.fst.fst) (x13.fst.snd.fst) (x13.fst.snd.snd))])
      (.done (.exit 0) [.c (.sl (y1.snd.fst.fst) (y1.snd.fst.snd.fst) (y1.snd.fst.snd.snd)), .c (.sl (y1.snd.snd.fst.fst) (y1.snd.snd.fst.snd.fst) (y1.snd.snd.fst.snd.snd)), .c (.sl (y1.snd.snd.snd.fst.fst) (y1.snd.snd.snd.fst.snd.fst) (y1.snd.snd.snd.fst.snd.snd))])) [.c (.sl), .c (.sl), .c (.sl)] fun x20 =>
  .done .ret [.c (.sl (x20.snd.fst.fst) (x20.snd.fst.snd.fst) (x20.snd.fst.snd.snd)), .c (.sl (x20.fst.fst) (x20.fst.snd.fst) (x20.fst.snd.snd)), .c (.sl (x20.snd.snd.fst.fst) (x20.snd.snd.fst.snd.fst) (x20.snd.snd.fst.snd.snd))]
theorem den_spec_WPops (a0p : Option PA) (a0l : Nat) (a0c : Nat) (a1p : Option PA) (a1l : Nat) (a1c : Nat) : denFn Try.prog Try.f52 [.c (.sl a0p a0l a0c), .c (.sl a1p a1l a1c)] = M_spec_WPops a0p a0l a0c a1p a1l a1c := by kernel_rfl
theorem hc_spec_WPops (a0p : Option PA) (a0l : Nat) (a0c : Nat) (a1p : Option PA) (a1l : Nat) (a1c : Nat) {h : H} {R : Value → H → Prop} (hw : wp Try.prog (M_spec_WPops a0p a0l a0c a1p a1l a1c) (Ret R) h) : HC Try.prog fn_spec_WPops (List.map AV.val [.c (.sl a0p a0l a0c), .c (.sl a1p a1l a1c)]).toArray h R :=
  den_calls hmix Try.func52 (of_decide_eq_true rfl) (by rw [den_spec_WPops]; exact hw)
def M_slices_Equal_bool_bool (a0p : Option PA) (a0l : Nat) (a0c : Nat) (a1p : Option PA) (a1l : Nat) (a1c : Nat) : M :=
  .ite ((↑a0l : Int) != (↑a1l : Int))
  (.done .ret [.c (.ff)])
  (.bind (some 0) (.loop [.c (.int .i64)] [.c (.int .i64 (0))] fun y0 =>
        .ite (decide (y0.fst < (↑a0l : Int)))
        (.nonnil (a0p) fun p1 =>
          .guard (((0 : Int) ≤ y0.fst) ∧ ((y0.fst : Int) < (↑a0l : Int))) <|
          .load (p1.fst, p1.snd + Int.toNat y0.fst) (.bool) fun b2 =>
          .nonnil (a1p) fun p3 =>
          .guard (((0 : Int) ≤ y0.fst) ∧ ((y0.fst : Int) < (↑a1l : Int))) <|
          .load (p3.fst, p3.snd + Int.toNat y0.fst) (.bool) fun b4 =>
          .ite (!b2 == b4)
          (.done .ret [.c (.ff)])
          (.guard (InK IntKind.i64 (y0.fst + 1)) <|
            .done .normal [.c (.int .i64 (y0.fst + 1))]))
        (.done (.exit 0) [])) [] fun x5 =>
    .done .ret [.c (.tt)])
theorem den_slices_Equal_bool_bool (a0p : Option PA) (a0l : Nat) (a0c : Nat) (a1p : Option PA) (a1l : Nat) (a1c : Nat) : denFn Try.prog Try.f53 [.c (.sl a0p a0l a0c), .c (.sl a1p a1l a1c)] = M_slices_Equal_bool_bool a0p a0l a0c a1p a1l a1c := by kernel_rfl
theorem hc_slices_Equal_bool_bool (a0p : Option PA) (a0l : Nat) (a0c : Nat) (a1p : Option PA) (a1l : Nat) (a1c : Nat) {h : H} {R : Value → H → Prop} (hw : wp Try.prog (M_slices_Equal_bool_bool a0p a0l a0c a1p a1l a1c) (Ret R) h) : HC Try.prog fn_slices_Equal_bool_bool (List.map AV.val [.c (.sl a0p a0l a0c), .c (.sl a1p a1l a1c)]).toArray h R :=
  den_calls hmix Try.func53 (of_decide_eq_true rfl) (by rw [den_slices_Equal_bool_bool]; exact hw)
def M_laws_wPops (a0 : Int) (a1p : Option PA) (a1l : Nat) (a1c : Nat) (a2p : Option PA) (a2l : Nat) (a2c : Nat) : M :=
  .call fn_impl_WPops [.c (.int .i64 (a0)), .c (.sl (a1p) (a1l) (a1c)), .c (.sl (a2p) (a2l) (a2c))] true [.c (.sl), .c (.sl), .c (.sl)] fun r0 =>
  .call fn_spec_WPops [.c (.sl (a1p) (a1l) (a1c)), .c (.sl (a2p) (a2l) (a2c))] true [.c (.sl), .c (.sl), .c (.sl)] fun r1 =>
  .bind none (.call fn_slices_Equal_impl_Word_impl_Word [.c (.sl (r0.fst.fst) (r0.fst.snd.fst) (r0.fst.snd.snd)), .c (.sl (r1.fst.fst) (r1.fst.snd.fst) (r1.fst.snd.snd))] false [.c (.bool)] fun r2 =>
    .ite (r2.fst)
    (.call fn_slices_Equal_bool_bool [.c (.sl (r0.snd.fst.fst) (r0.snd.fst.snd.fst) (r0.snd.fst.snd.snd)), .c (.sl (r1.snd.fst.fst) (r1.snd.fst.snd.fst) (r1.snd.fst.snd.snd))] false [.c (.bool)] fun r3 =>
      .ite (r3.fst)
      (.call fn_slices_Equal_impl_Word_impl_Word [.c (.sl (r0.snd.snd.fst.fst) (r0.snd.snd.fst.snd.fst) (r0.snd.snd.fst.snd.snd)), .c (.sl (r1.snd.snd.fst.fst) (r1.snd.snd.fst.snd.fst) (r1.snd.snd.fst.snd.snd))] false [.c (.bool)] fun r4 =>
        .done .normal [.c (.bool (r4.fst))])
      (.done .normal [.c (.ff)]))
    (.done .normal [.c (.ff)])) [.c (.bool)] fun x5 =>
  .done .ret [.c (.bool (x5.fst))]
theorem den_laws_wPops (a0 : Int) (a1p : Option PA) (a1l : Nat) (a1c : Nat) (a2p : Option PA) (a2l : Nat) (a2c : Nat) : denFn Try.prog Try.f25 [.c (.int .i64 a0), .c (.sl a1p a1l a1c), .c (.sl a2p a2l a2c)] = M_laws_wPops a0 a1p a1l a1c a2p a2l a2c := by kernel_rfl
theorem hc_laws_wPops (a0 : Int) (a1p : Option PA) (a1l : Nat) (a1c : Nat) (a2p : Option PA) (a2l : Nat) (a2c : Nat) {h : H} {R : Value → H → Prop} (hw : wp Try.prog (M_laws_wPops a0 a1p a1l a1c a2p a2l a2c) (Ret R) h) : HC Try.prog fn_laws_wPops (List.map AV.val [.c (.int .i64 a0), .c (.sl a1p a1l a1c), .c (.sl a2p a2l a2c)]).toArray h R :=
  den_calls hmix Try.func25 (of_decide_eq_true rfl) (by rw [den_laws_wPops]; exact hw)
def M_laws_FnExactWPops (a0 : Int) (a1p : Option PA) (a1l : Nat) (a1c : Nat) (a2p : Option PA) (a2l : Nat) (a2c : Nat) : M :=
  .bind none (.call fn_laws_zzFits2 [.c (.sl (a1p) (a1l) (a1c))] false [.c (.bool)] fun r0 =>
    .ite (!r0.fst)
    (.done .normal [.c (.tt)])
    (.done .normal [.c (.bool (decide ((↑a2l : Int) > 2147483647)))])) [.c (.bool)] fun x1 =>
  .ite (x1.fst)
  (.done .ret [.c (.tt)])
  (.bind none (.call fn_laws_exWords [] false [.c (.sl)] fun r2 =>
      .alloc ty_bool [.tt, .ff] fun n3 =>
      .call fn_laws_wPops [.c (.int .i64 (2)), .c (.sl (r2.fst.fst) (r2.fst.snd.fst) (r2.fst.snd.snd)), .c (.sl (some (n3, 0)) (2) (2))] false [.c (.bool)] fun r4 =>
      .ite (r4.fst)
      (.call fn_laws_fit [.c (.int .i64 (a0))] false [.c (.bool)] fun r5 =>
        .ite (!r5.fst)
        (.done .normal [.c (.tt)])
        (.call fn_laws_wPops [.c (.int .i64 (a0)), .c (.sl (a1p) (a1l) (a1c)), .c (.sl (a2p) (a2l) (a2c))] false [.c (.bool)] fun r6 =>
          .done .normal [.c (.bool (r6.fst))]))
      (.done .normal [.c (.ff)])) [.c (.bool)] fun x7 =>
    .done .ret [.c (.bool (x7.fst))])
theorem den_laws_FnExactWPops (a0 : Int) (a1p : Option PA) (a1l : Nat) (a1c : Nat) (a2p : Option PA) (a2l : Nat) (a2c : Nat) : denFn Try.prog Try.f9 [.c (.int .i64 a0), .c (.sl a1p a1l a1c), .c (.sl a2p a2l a2c)] = M_laws_FnExactWPops a0 a1p a1l a1c a2p a2l a2c := by kernel_rfl
theorem hc_laws_FnExactWPops (a0 : Int) (a1p : Option PA) (a1l : Nat) (a1c : Nat) (a2p : Option PA) (a2l : Nat) (a2c : Nat) {h : H} {R : Value → H → Prop} (hw : wp Try.prog (M_laws_FnExactWPops a0 a1p a1l a1c a2p a2l a2c) (Ret R) h) : HC Try.prog fn_laws_FnExactWPops (List.map AV.val [.c (.int .i64 a0), .c (.sl a1p a1l a1c), .c (.sl a2p a2l a2c)]).toArray h R :=
  den_calls hmix Try.func9 (of_decide_eq_true rfl) (by rw [den_laws_FnExactWPops]; exact hw)
def popX (l : List WV) (b : Bool) : Option WV := if b then l.getLast? else l.head?
def popL (l : List WV) (b : Bool) : List WV := if b then l.dropLast else l.tail
def popsR (l : List WV) (bs : List Bool) : List WV := bs.foldl popL l
def popsX : List WV → List Bool → List (Option WV)
  | _, [] => []
  | l, b :: bs => popX l b :: popsX (popL l b) bs
theorem popsR_snoc (l : List WV) (bs : List Bool) (b : Bool) : popsR l (bs ++ [b]) = popL (popsR l bs) b := by simp [popsR]
theorem popsX_snoc : ∀ (l : List WV) (bs : List Bool) (b : Bool), popsX l (bs ++ [b]) = popsX l bs ++ [popX (popsR l bs) b]
  | l, [], b => rfl
  | l, a :: bs, b => by
    show popX l a :: popsX (popL l a) (bs ++ [b]) = _
    rw [popsX_snoc]; rfl
theorem popsX_len : ∀ (l : List WV) (bs : List Bool), (popsX l bs).length = bs.length
  | _, [] => rfl
  | l, b :: bs => by show (popsX (popL l b) bs).length + 1 = _; rw [popsX_len]; rfl
theorem popL_len (l : List WV) (b : Bool) : (popL l b).length ≤ l.length := by
  unfold popL
  split <;> simp
theorem popsR_len (l : List WV) (bs : List Bool) : (popsR l bs).length ≤ l.length := by
  induction bs generalizing l with
  | nil => exact Nat.le_refl _
  | cons b bs ih => exact Nat.le_trans (ih (popL l b)) (popL_len l b)
def zW (o : Option WV) : WV := o.getD (⟨#[]⟩, 0)
theorem opR_z (f : Option WV) : MW.opR f = ((zW f).1, (zW f).2, f.isSome, ()) := by cases f <;> rfl
section
variable {Q : Ex → List AV → H → Prop} {h h0 : H} {G0 : PA → Prop} {l : List Ck}
theorem w_bq {p : PA} {xs : List Bool} (hr : rds h p (LQ.flat xs)) {i : Nat} {x : Bool} (hx : xs[i]? = some x) {m : Bool → M} (hw : wp Try.prog (m x) Q h) : wp Try.prog (.load (p.1, p.2 + i) .bool m) Q h := by
  refine w_bool x ?_ hw
  have := hr (i * 1 + 0) _ (LQ.flat_get (j := 0) hx rfl)
  simpa using this
end
section
variable {h : H}
theorem c_fit {d : Int} : HT Try.prog fn_laws_fit [.c (.int .i64 d)] false [.c .bool] h fun x h' => x = (decide (2 ≤ d ∧ d ≤ 128), ()) ∧ h' = h := by
  apply hc_laws_fit
  unfold M_laws_fit
  by_cases h0 : d > 0
  · refine w_bnd (w_true (decide_eq_true h0) (w_callT c_Fits ?_))
    rintro _ _ ⟨rfl, rfl⟩
    refine bd_n rfl (rt_1 rfl ⟨?_, rfl⟩)
    congr 1
    exact decide_eq_decide.2 ⟨fun h => by omega, fun h => .inr h⟩
  · refine w_bnd (w_false (decide_eq_false h0) (bd_n rfl (rt_1 rfl ⟨?_, rfl⟩)))
    rw [decide_eq_false (by omega)]
theorem c_popped {a : PA} {iso : Int} {dg : Nat} {b : Bool} {l : List WV} (hl : l.length ≤ 4294967296) {G : PA → Prop} (hG : Star [MW.MpC iso dg a l] h G) :
    HT Try.prog fn_impl_popped [.c (.addr a), .c (.bool b)] true [.c .str, .c (.int .i64), .c .bool] h fun r h' => ∃ post, (r = ((zW (popX l b)).1, (zW (popX l b)).2, (popX l b).isSome, ()) ∧ post = [MW.MpC iso dg a (popL l b)]) ∧ St h G post h' := by
  apply hc_impl_popped
  unfold M_impl_popped
  cases b with
  | true =>
    refine w_true rfl ?_
    refine st_callT (St.start hG) [.mp a] (fun G hG => MW.c_PopMax hl hG) ?_
    rintro _ _ _ ⟨rfl, rfl⟩ S
    dsimp only [List.cons_append, List.nil_append] at S
    rw [opR_z]
    exact rt_n rfl rfl ⟨_, ⟨rfl, rfl⟩, S⟩
  | false =>
    refine w_false rfl ?_
    refine st_callT (St.start hG) [.mp a] (fun G hG => MW.c_PopMin hl hG) ?_
    rintro _ _ _ ⟨rfl, rfl⟩ S
    dsimp only [List.cons_append, List.nil_append] at S
    rw [opR_z]
    exact rt_n rfl rfl ⟨_, ⟨rfl, rfl⟩, S⟩
theorem c_allWords {a : PA} {iso : Int} {dg : Nat} {l : List WV} (hl : l.length ≤ 4294967296) {G : PA → Prop} (hG : Star [MW.MpC iso dg a l] h G) :
    HT Try.prog fn_impl_allWords [.c (.addr a)] false [.c .sl] h fun r h' => ∃ post, (∃ s : SlT, r = (s, ()) ∧ OwnL LW s l ∧ post = [SlC s LW.sz (LW.flat l), MW.MpC iso dg a l]) ∧ St h G post h' := by
  apply hc_impl_allWords
  unfold M_impl_allWords
  have hl2 : ([] : List WV).length + l.length ≤ 4294967296 := by simp; omega
  refine st_alloc (St.start hG) fun n1 _ S => ?_
  refine st_callT S [.ow (n1, 0)] (fun G hG => c_words hG) ?_
  rintro _ _ _ ⟨fp, f0, f1, rfl, rfl⟩ S
  dsimp only [List.cons_append, List.nil_append] at S
  refine st_callV S [.ck (WrC (n1, 0) fp f0 f1 0 []), .mp a] (args' := [.c (.addr a), .c (.raw (wrF fp))]) rfl (fun G hG => MW.c_Scan (cb_words (n := 0)) hl2 hG) ?_
  rintro _ _ _ rfl S
  dsimp only [List.cons_append, List.nil_append] at S
  rw [run_first] at S
  have e : firstO l 0 = l := if_pos (.inl (by decide))
  rw [e] at S
  obtain ⟨s, hs, S⟩ := open_wr S
  refine ld_sl S s.1 s.2.1 s.2.2 rfl ?_
  exact rt_1 rfl ⟨_, ⟨s, rfl, hs, rfl⟩, S.only [.sl s, .mp a]⟩
set_option maxHeartbeats 2000000 in
theorem c_WPopsI {c : Ck} {d : Int} (hd : d ≤ 536870912) {xs : List WV} {sp : Option PA} {n cap : Nat} (hx : Rdr c (sp, n, cap) LW xs) (hxl : xs.length ≤ 2147483647) {bs : List Bool} {bp : Option PA} {bn bc : Nat} (hb : Rdr c (bp, bn, bc) LQ bs) (hbl : bs.length ≤ 2147483647) {G : PA → Prop} (hG : Star [c] h G) :
    HT Try.prog fn_impl_WPops [.c (.int .i64 d), .c (.sl sp n cap), .c (.sl bp bn bc)] true [.c .sl, .c .sl, .c .sl] h fun r h' => ∃ post, (∃ w q s : SlT, r = (w, q, s, ()) ∧ OwnL LW w ((popsX (treeW xs) bs).map zW) ∧ OwnL LQ q ((popsX (treeW xs) bs).map Option.isSome) ∧ OwnL LW s (popsR (treeW xs) bs) ∧
      post = [c, SlC w LW.sz (LW.flat ((popsX (treeW xs) bs).map zW)), SlC q LQ.sz (LQ.flat ((popsX (treeW xs) bs).map Option.isSome)), SlC s LW.sz (LW.flat (popsR (treeW xs) bs))]) ∧ St h G post h' := by
  apply hc_impl_WPops
  unfold M_impl_WPops
  have hn : bn = bs.length := hb.1
  have htl := treeW_len xs
  refine st_callT (St.start hG) [.ck c] (fun G hG => c_growWords hd hx hxl hG) ?_
  rintro _ _ _ ⟨mp, rfl, rfl⟩ S
  dsimp only [List.cons_append, List.nil_append] at S
  have S := sl_nil LW (sl_nil LQ S)
  refine w_mid' (some 0) (fun (y : SV [.c .sl, .c .sl]) h' => ∃ q w : SlT, y = (q, w, ()) ∧ OwnL LW w ((popsX (treeW xs) bs).map zW) ∧ OwnL LQ q ((popsX (treeW xs) bs).map Option.isSome) ∧ St h G [c, SlC w LW.sz (LW.flat ((popsX (treeW xs) bs).map zW)), SlC q LQ.sz (LQ.flat ((popsX (treeW xs) bs).map Option.isSome)), MW.MpC 0 (MW.dgOf d) (mp, 0) (popsR (treeW xs) bs)] h') ?_ ?_
  · refine w_lp (fun r y h' => ∃ (i : Nat) (q w : SlT), y = ((i : Int), q, w, ()) ∧ i + r = bn ∧ OwnL LW w ((popsX (treeW xs) (bs.take i)).map zW) ∧ OwnL LQ q ((popsX (treeW xs) (bs.take i)).map Option.isSome) ∧ St h G [SlC w LW.sz (LW.flat ((popsX (treeW xs) (bs.take i)).map zW)), SlC q LQ.sz (LQ.flat ((popsX (treeW xs) (bs.take i)).map Option.isSome)), MW.MpC 0 (MW.dgOf d) (mp, 0) (popsR (treeW xs) (bs.take i)), c] h') bn rfl
      ⟨0, (none, 0, 0), (none, 0, 0), rfl, by omega, ⟨rfl, Nat.le_refl _, .inl rfl⟩, ⟨rfl, Nat.le_refl _, .inl rfl⟩, S.only [.sl (none, 0, 0), .sl (none, 0, 0), .mp (mp, 0), .ck c]⟩ ?_
    clear S
    rintro r _ _ ⟨i, q, w, rfl, hi, hw, hq, S⟩
    by_cases hlt : i < bn
    · obtain ⟨p, hp, hrd⟩ := hb.ptr (by omega)
      dsimp only at hp
      subst hp
      have hxi := List.getElem?_eq_getElem (show i < bs.length by omega)
      have hpl := popsR_len (treeW xs) (bs.take i)
      have hwl : ((popsX (treeW xs) (bs.take i)).map zW).length = i := by rw [List.length_map, popsX_len, List.length_take]; omega
      have hql : ((popsX (treeW xs) (bs.take i)).map Option.isSome).length = i := by rw [List.length_map, popsX_len, List.length_take]; omega
      have e1 : popsX (treeW xs) (bs.take (i + 1)) = popsX (treeW xs) (bs.take i) ++ [popX (popsR (treeW xs) (bs.take i)) bs[i]] := by rw [take_snoc (by omega), popsX_snoc]
      have e2 : popsR (treeW xs) (bs.take (i + 1)) = popL (popsR (treeW xs) (bs.take i)) bs[i] := by rw [take_snoc (by omega), popsR_snoc]
      obtain ⟨q1, q2, q3⟩ := q
      obtain ⟨w1, w2, w3⟩ := w
      simp only [Int.toNat_natCast, toNat_succ, toNat_succ2, toNat_pred]
      refine w_true (lt_t (by (first | omega | ((try dsimp only [Sh.T, Sh1.T]); omega)))) (w_nonnil (w_guard ⟨by (first | omega | ((try dsimp only [Sh.T, Sh1.T]); omega)), by (first | omega | ((try dsimp only [Sh.T, Sh1.T]); omega))⟩ (w_bq (S.rdr hrd) hxi ?_)))
      refine st_callV S [.mp (mp, 0)] (args' := [.c (.addr (mp, 0)), .c (.bool bs[i])]) rfl (fun G hG => c_popped (by omega) hG) ?_
      rintro _ _ _ ⟨rfl, rfl⟩ S
      dsimp only [List.cons_append, List.nil_append] at S
      refine st_alloc S fun n5 _ S => ?_
      have S := S.at (.sl (w1, w2, w3))
      refine st_apo (L := LW) (xs := (popsX (treeW xs) (bs.take i)).map zW) (y := zW (popX (popsR (treeW xs) (bs.take i)) bs[i])) S hw rfl rfl (S.rsl (LW.flat [_]) 1 1 2 (fun i v h => by rw [Nat.zero_add]; exact h) rfl) ⟨by omega, by omega⟩ fun w' _ hw' S => ?_
      refine st_alloc S fun n7 _ S => ?_
      have S := S.at (.sl (q1, q2, q3))
      refine st_apo (L := LQ) (xs := (popsX (treeW xs) (bs.take i)).map Option.isSome) (y := (popX (popsR (treeW xs) (bs.take i)) bs[i]).isSome) S hq rfl rfl (S.rsl (LQ.flat [_]) 1 1 1 (fun i v h => by rw [Nat.zero_add]; exact h) rfl) ⟨by omega, by omega⟩ fun q' _ hq' S => ?_
      refine w_guard (inK64 (by (first | omega | ((try dsimp only [Sh.T, Sh1.T]); omega))) (by (first | omega | ((try dsimp only [Sh.T, Sh1.T]); omega)))) ?_
      have f1 : (popsX (treeW xs) (bs.take i)).map zW ++ [zW (popX (popsR (treeW xs) (bs.take i)) bs[i])] = (popsX (treeW xs) (bs.take (i + 1))).map zW := by rw [e1, List.map_append]; rfl
      have f2 : (popsX (treeW xs) (bs.take i)).map Option.isSome ++ [(popX (popsR (treeW xs) (bs.take i)) bs[i]).isSome] = (popsX (treeW xs) (bs.take (i + 1))).map Option.isSome := by rw [e1, List.map_append]; rfl
      rw [f1] at hw' S
      rw [f2] at hq' S
      rw [← e2] at S
      exact ln_n rfl (r - 1) ⟨i + 1, q', w', rfl, by omega, hw', hq', S.only [.sl w', .sl q', .mp (mp, 0), .ck c]⟩ (by omega)
    · rw [List.take_of_length_le (by omega)] at hw hq S
      exact w_false (lt_f (by (first | omega | ((try dsimp only [Sh.T, Sh1.T]); omega)))) (ln_e (md_e rfl ⟨q, w, rfl, hw, hq, S.only [.ck c, .sl w, .sl q, .mp (mp, 0)]⟩))
  · clear S
    rintro _ _ ⟨q, w, rfl, hw, hq, S⟩
    have hpl := popsR_len (treeW xs) bs
    refine st_callV S [.mp (mp, 0)] (args' := [.c (.addr (mp, 0))]) rfl (fun G hG => c_allWords (by omega) hG) ?_
    rintro _ _ _ ⟨s, rfl, hs, rfl⟩ S
    dsimp only [List.cons_append, List.nil_append] at S
    exact rt_n rfl rfl ⟨_, ⟨w, q, s, rfl, hw, hq, hs, rfl⟩, S.only [.ck c, .sl w, .sl q, .sl s]⟩
set_option maxHeartbeats 4000000 in
theorem c_WPopsS {c : Ck} {xs : List WV} {sp : Option PA} {n cap : Nat} (hx : Rdr c (sp, n, cap) LW xs) (hxl : xs.length ≤ 2147483647) {bs : List Bool} {bp : Option PA} {bn bc : Nat} (hb : Rdr c (bp, bn, bc) LQ bs) (hbl : bs.length ≤ 2147483647) {G : PA → Prop} (hG : Star [c] h G) :
    HT Try.prog fn_spec_WPops [.c (.sl sp n cap), .c (.sl bp bn bc)] true [.c .sl, .c .sl, .c .sl] h fun r h' => ∃ post, (∃ w q s t0 : SlT, r = (w, q, s, ()) ∧ OwnL LW w ((popsX (treeW xs) bs).map zW) ∧ OwnL LQ q ((popsX (treeW xs) bs).map Option.isSome) ∧ Rdr (SlC t0 LW.sz (LW.flat (treeW xs))) s LW (popsR (treeW xs) bs) ∧
      post = [c, SlC w LW.sz (LW.flat ((popsX (treeW xs) bs).map zW)), SlC q LQ.sz (LQ.flat ((popsX (treeW xs) bs).map Option.isSome)), SlC t0 LW.sz (LW.flat (treeW xs))]) ∧ St h G post h' := by
  apply hc_spec_WPops
  unfold M_spec_WPops
  have hn : bn = bs.length := hb.1
  have htl := treeW_len xs
  refine st_callT (St.start hG) [.ck c] (fun G hG => c_Words hx hxl hG) ?_
  rintro _ _ _ ⟨t0, rfl, ht0, rfl⟩ S
  dsimp only [List.cons_append, List.nil_append] at S
  generalize treeW xs = T at *
  have S := sl_nil LW (sl_nil LQ S)
  refine w_mid' (some 0) (fun (y : SV [.c .sl, .c .sl, .c .sl]) h' => ∃ q w s : SlT, y = (q, w, s, ()) ∧ OwnL LW w ((popsX T bs).map zW) ∧ OwnL LQ q ((popsX T bs).map Option.isSome) ∧ Rdr (SlC t0 LW.sz (LW.flat T)) s LW (popsR T bs) ∧ St h G [c, SlC w LW.sz (LW.flat ((popsX T bs).map zW)), SlC q LQ.sz (LQ.flat ((popsX T bs).map Option.isSome)), SlC t0 LW.sz (LW.flat T)] h') ?_ ?_
  · refine w_lp (fun r y h' => ∃ (i : Nat) (q w s : SlT), y = ((i : Int), q, w, s, ()) ∧ i + r = bn ∧ OwnL LW w ((popsX T (bs.take i)).map zW) ∧ OwnL LQ q ((popsX T (bs.take i)).map Option.isSome) ∧ Rdr (SlC t0 LW.sz (LW.flat T)) s LW (popsR T (bs.take i)) ∧ St h G [SlC w LW.sz (LW.flat ((popsX T (bs.take i)).map zW)), SlC q LQ.sz (LQ.flat ((popsX T (bs.take i)).map Option.isSome)), c, SlC t0 LW.sz (LW.flat T)] h') bn rfl
      ⟨0, (none, 0, 0), (none, 0, 0), t0, rfl, by omega, ⟨rfl, Nat.le_refl _, .inl rfl⟩, ⟨rfl, Nat.le_refl _, .inl rfl⟩, ht0.rdr, S⟩ ?_
    clear S
    rintro r _ _ ⟨i, q, w, s, rfl, hi, hw, hq, hs, S⟩
    by_cases hlt : i < bn
    · obtain ⟨p, hp, hrd⟩ := hb.ptr (by omega)
      dsimp only at hp
      subst hp
      have hxi := List.getElem?_eq_getElem (show i < bs.length by omega)
      have hpl := popsR_len T (bs.take i)
      have hwl : ((popsX T (bs.take i)).map zW).length = i := by rw [List.length_map, popsX_len, List.length_take]; omega
      have hql : ((popsX T (bs.take i)).map Option.isSome).length = i := by rw [List.length_map, popsX_len, List.length_take]; omega
      have e1 : popsX T (bs.take (i + 1)) = popsX T (bs.take i) ++ [popX (popsR T (bs.take i)) bs[i]] := by rw [take_snoc (by omega), popsX_snoc]
      have e2 : popsR T (bs.take (i + 1)) = popL (popsR T (bs.take i)) bs[i] := by rw [take_snoc (by omega), popsR_snoc]
      obtain ⟨q1, q2, q3⟩ := q
      obtain ⟨w1, w2, w3⟩ := w
      obtain ⟨s1, s2, s3⟩ := s
      have hs2 : s2 = (popsR T (bs.take i)).length := hs.1
      have hs3 : s2 ≤ s3 := hs.2.1
      generalize hbq : bs[i] = b at *
      generalize hlq : popsR T (bs.take i) = lq at *
      simp only [Int.toNat_natCast, toNat_succ, toNat_succ2, toNat_pred]
      refine w_true (lt_t (by (first | omega | ((try dsimp only [Sh.T, Sh1.T]); omega)))) (w_nonnil (w_guard ⟨by (first | omega | ((try dsimp only [Sh.T, Sh1.T]); omega)), by (first | omega | ((try dsimp only [Sh.T, Sh1.T]); omega))⟩ (w_bq (S.rdr hrd) hxi ?_)))
      refine st_alloc S fun n4 _ S => ?_
      refine st_store S (lt_ble rfl) fun _ S => ?_
      refine st_store S (lt_ble rfl) fun _ S => ?_
      have S := S.only [.ow (n4, 0), .sl (w1, w2, w3), .sl (q1, q2, q3), .ck c, .sl t0]
      refine w_mid' none (fun (y : SV [.c .bool]) h' => y = (decide (0 < s2) && b, ()) ∧ St h G [Ow (n4, 0) (LW.cells (⟨#[]⟩, 0)) 0, SlC (w1, w2, w3) LW.sz (LW.flat ((popsX T (bs.take i)).map zW)), SlC (q1, q2, q3) LQ.sz (LQ.flat ((popsX T (bs.take i)).map Option.isSome)), c, SlC t0 LW.sz (LW.flat T)] h') ?_ ?_
      · by_cases h0 : 0 < s2
        · exact w_true (decide_eq_true (by (first | omega | ((try dsimp only [Sh.T, Sh1.T]); omega)))) (md_n rfl ⟨by rw [decide_eq_true h0]; rfl, S⟩)
        · exact w_false (decide_eq_false (by (first | omega | ((try dsimp only [Sh.T, Sh1.T]); omega)))) (md_n rfl ⟨by rw [decide_eq_false h0]; rfl, S⟩)
      clear S
      rintro _ _ ⟨rfl, S⟩
      refine w_mid' none (fun (y : SV [.c .sl]) h' => ∃ s' : SlT, y = (s', ()) ∧ Rdr (SlC t0 LW.sz (LW.flat T)) s' LW (popL lq b) ∧ St h G [Ow (n4, 0) (LW.cells (zW (popX lq b))) 0, SlC (w1, w2, w3) LW.sz (LW.flat ((popsX T (bs.take i)).map zW)), SlC (q1, q2, q3) LQ.sz (LQ.flat ((popsX T (bs.take i)).map Option.isSome)), c, SlC t0 LW.sz (LW.flat T)] h') ?_ ?_
      · by_cases h0 : 0 < s2
        · obtain ⟨p2, hp2, hrd2⟩ := hs.ptr (by omega)
          dsimp only at hp2
          subst hp2
          cases b with
          | true =>
            obtain ⟨y, hy⟩ : ∃ y, lq[s2 - 1]? = some y := ⟨_, List.getElem?_eq_getElem (by omega)⟩
            have hpx : popX lq true = some y := by
              show lq.getLast? = _
              rw [List.getLast?_eq_getElem?, ← hs2]; exact hy
            have hpp := hs.part 0 (s2 - 1) (by omega)
            have e3 : (lq.drop 0).take (s2 - 1) = popL lq true := by
              show _ = lq.dropLast
              rw [List.drop_zero, List.dropLast_eq_take, hs2]
            rw [e3] at hpp
            rw [hpx]
            refine w_true (by rw [decide_eq_true h0]; rfl) (w_guard (inK64 (by (first | omega | ((try dsimp only [Sh.T, Sh1.T]); omega))) (by (first | omega | ((try dsimp only [Sh.T, Sh1.T]); omega)))) (w_nonnil (w_guard ⟨by (first | omega | ((try dsimp only [Sh.T, Sh1.T]); omega)), by (first | omega | ((try dsimp only [Sh.T, Sh1.T]); omega))⟩ ?_)))
            refine w_word ((S.at (.sl t0)).rdr hrd2) hy ?_
            refine w_guard (inK64 (by (first | omega | ((try dsimp only [Sh.T, Sh1.T]); omega))) (by (first | omega | ((try dsimp only [Sh.T, Sh1.T]); omega)))) (w_guard ⟨by (first | omega | ((try dsimp only [Sh.T, Sh1.T]); omega)), by (first | omega | ((try dsimp only [Sh.T, Sh1.T]); omega))⟩ ?_)
            refine st_store S (lt_ble rfl) fun _ S => ?_
            refine st_store S (lt_ble rfl) fun _ S => ?_
            exact md_n rfl ⟨_, rfl, hpp, S⟩
          | false =>
            obtain ⟨yy, hy⟩ : ∃ y, lq[0]? = some y := ⟨_, List.getElem?_eq_getElem (by omega)⟩
            have hpx : popX lq false = some yy := by
              show lq.head? = _
              rw [List.head?_eq_getElem?]; exact hy
            have hpp := hs.part 1 (s2 - 1) (by omega)
            have e3 : (lq.drop 1).take (s2 - 1) = popL lq false := by
              show _ = lq.tail
              rw [List.take_of_length_le (by simp; omega), List.drop_one]
            rw [e3] at hpp
            rw [hpx]
            refine w_false (by rw [Bool.and_false]) ?_
            refine w_mid' none (fun (y : SV [.c .sl]) h' => ∃ s' : SlT, y = (s', ()) ∧ Rdr (SlC t0 LW.sz (LW.flat T)) s' LW (popL lq false) ∧ St h G [Ow (n4, 0) (LW.cells (zW (some yy))) 0, SlC (w1, w2, w3) LW.sz (LW.flat ((popsX T (bs.take i)).map zW)), SlC (q1, q2, q3) LQ.sz (LQ.flat ((popsX T (bs.take i)).map Option.isSome)), c, SlC t0 LW.sz (LW.flat T)] h') ?_ (fun _ _ ⟨s', e, g1, g2⟩ => by subst e; exact md_n rfl ⟨s', rfl, g1, g2⟩)
            refine w_true (decide_eq_true (by (first | omega | ((try dsimp only [Sh.T, Sh1.T]); omega)))) (w_nonnil (w_guard ⟨by decide, by (first | omega | ((try dsimp only [Sh.T, Sh1.T]); omega))⟩ ?_))
            have hw0 := wd_k ((S.at (.sl t0)).rdr hrd2) hy
            have hw1 := wd_v ((S.at (.sl t0)).rdr hrd2) hy
            rw [mulN_eq, Nat.zero_mul, Nat.add_zero] at hw0 hw1
            refine w_str yy.1 hw0 (w_int yy.2 hw1 ?_)
            refine w_guard ⟨by decide, by (first | omega | ((try dsimp only [Sh.T, Sh1.T]); omega))⟩ ?_
            refine st_store S (lt_ble rfl) fun _ S => ?_
            refine st_store S (lt_ble rfl) fun _ S => ?_
            exact md_n rfl ⟨_, rfl, hpp, S⟩
        · have hl0 : lq = [] := List.length_eq_zero_iff.1 (by omega)
          have hpx : popX lq b = none := by rw [hl0]; cases b <;> rfl
          have hpl0 : popL lq b = lq := by rw [hl0]; cases b <;> rfl
          rw [hpx, hpl0]
          refine w_false (by rw [decide_eq_false h0]; rfl) (w_bnd (w_false (decide_eq_false (by (first | omega | ((try dsimp only [Sh.T, Sh1.T]); omega)))) (bd_n rfl ?_)))
          exact md_n rfl ⟨_, rfl, hs, S⟩
      clear S
      rintro _ _ ⟨s', rfl, hs', S⟩
      refine ld_str S rfl (ld_int S rfl ?_)
      refine st_alloc S fun n16 _ S => ?_
      have S := S.at (.sl (w1, w2, w3))
      refine st_apo (L := LW) (xs := (popsX T (bs.take i)).map zW) (y := zW (popX lq b)) S hw rfl rfl (S.rsl (LW.flat [_]) 1 1 2 (fun i v h => by rw [Nat.zero_add]; exact h) rfl) ⟨by omega, by omega⟩ fun w' _ hw' S => ?_
      refine st_alloc S fun n18 _ S => ?_
      have hsm : decide ((s2 : Int) > 0) = (popX lq b).isSome := by
        by_cases h0 : 0 < s2
        · rw [decide_eq_true (by omega)]
          cases b with
          | true =>
            show _ = lq.getLast?.isSome
            rw [List.getLast?_eq_getElem?, List.getElem?_eq_getElem (by omega)]; rfl
          | false =>
            show _ = lq.head?.isSome
            rw [List.head?_eq_getElem?, List.getElem?_eq_getElem (by omega)]; rfl
        · have hl0 : lq = [] := List.length_eq_zero_iff.1 (by omega)
          rw [decide_eq_false (by omega), hl0]
          cases b <;> rfl
      have S := S.at (.sl (q1, q2, q3))
      refine st_apo (L := LQ) (xs := (popsX T (bs.take i)).map Option.isSome) (y := (popX lq b).isSome) S hq rfl rfl (by rw [← hsm]; exact S.rsl (LQ.flat [_]) 1 1 1 (fun i v h => by rw [Nat.zero_add]; exact h) rfl) ⟨by omega, by omega⟩ fun q' _ hq' S => ?_
      refine w_guard (inK64 (by (first | omega | ((try dsimp only [Sh.T, Sh1.T]); omega))) (by (first | omega | ((try dsimp only [Sh.T, Sh1.T]); omega)))) ?_
      have f1 : (popsX T (bs.take i)).map zW ++ [zW (popX lq b)] = (popsX T (bs.take (i + 1))).map zW := by rw [e1, List.map_append]; rfl
      have f2 : (popsX T (bs.take i)).map Option.isSome ++ [(popX lq b).isSome] = (popsX T (bs.take (i + 1))).map Option.isSome := by rw [e1, List.map_append]; rfl
      rw [f1] at hw' S
      rw [f2] at hq' S
      rw [← e2] at hs'
      exact ln_n rfl (r - 1) ⟨i + 1, q', w', s', rfl, by omega, hw', hq', hs', S.only [.sl w', .sl q', .ck c, .sl t0]⟩ (by omega)
    · rw [List.take_of_length_le (by omega)] at hw hq hs S
      exact w_false (lt_f (by (first | omega | ((try dsimp only [Sh.T, Sh1.T]); omega)))) (ln_e (md_e rfl ⟨q, w, s, rfl, hw, hq, hs, S.only [.ck c, .sl w, .sl q, .sl t0]⟩))
  · clear S
    rintro _ _ ⟨q, w, s, rfl, hw, hq, hs, S⟩
    exact rt_n rfl rfl ⟨_, ⟨w, q, s, t0, rfl, hw, hq, hs, rfl⟩, S⟩
set_option maxHeartbeats 1000000 in
theorem c_EqQ {c : Ck} {xs : List Bool} {sp tp : Option PA} {n m cn cm : Nat} (hx : Rdr c (sp, n, cn) LQ xs) (hy : Rdr c (tp, m, cm) LQ xs) (hl : xs.length ≤ 4294967296) {G : PA → Prop} (hG : Star [c] h G) :
    HT Try.prog fn_slices_Equal_bool_bool [.c (.sl sp n cn), .c (.sl tp m cm)] false [.c .bool] h fun r h' => ∃ post, (r = (true, ()) ∧ post = [c]) ∧ St h G post h' := by
  apply hc_slices_Equal_bool_bool
  unfold M_slices_Equal_bool_bool
  have hn : n = xs.length := hx.1
  have hm : m = xs.length := hy.1
  have S := St.start hG
  obtain rfl : n = m := by omega
  refine w_false (by simp) ?_
  refine w_bnd (w_lp (fun r y h' => ∃ i : Nat, y = ((i : Int), ()) ∧ i + r = n ∧ St h G [c] h') n rfl ⟨0, rfl, by omega, S⟩ ?_)
  clear S
  rintro r _ _ ⟨i, rfl, hi, S⟩
  by_cases hlt : i < n
  · obtain ⟨p, hp, hro⟩ := hx.ptr (by omega)
    obtain ⟨q, hq, hro2⟩ := hy.ptr (by omega)
    dsimp only at hp hq
    subst hp; subst hq
    have hxi := List.getElem?_eq_getElem (show i < xs.length by omega)
    simp only [Int.toNat_natCast, toNat_succ, toNat_succ2, toNat_pred]
    refine w_true (lt_t (by (first | omega | ((try dsimp only [Sh.T, Sh1.T]); omega)))) ?_
    refine w_nonnil (w_guard ⟨by (first | omega | ((try dsimp only [Sh.T, Sh1.T]); omega)), by (first | omega | ((try dsimp only [Sh.T, Sh1.T]); omega))⟩ (w_bq (S.rdr hro) hxi ?_))
    refine w_nonnil (w_guard ⟨by (first | omega | ((try dsimp only [Sh.T, Sh1.T]); omega)), by (first | omega | ((try dsimp only [Sh.T, Sh1.T]); omega))⟩ (w_bq (S.rdr hro2) hxi ?_))
    refine w_false (by cases xs[i] <;> rfl) ?_
    refine w_guard (inK64 (by (first | omega | ((try dsimp only [Sh.T, Sh1.T]); omega))) (by (first | omega | ((try dsimp only [Sh.T, Sh1.T]); omega)))) ?_
    exact ln_n rfl (r - 1) ⟨i + 1, rfl, by omega, S⟩ (by omega)
  · exact w_false (lt_f (by (first | omega | ((try dsimp only [Sh.T, Sh1.T]); omega)))) (ln_e (bd_e rfl (rt_1 rfl ⟨_, ⟨rfl, rfl⟩, S⟩)))
set_option maxHeartbeats 1000000 in
theorem c_wPops {c : Ck} {d : Int} (hd : d ≤ 536870912) {xs : List WV} {sp : Option PA} {n cap : Nat} (hx : Rdr c (sp, n, cap) LW xs) (hxl : xs.length ≤ 2147483647) {bs : List Bool} {bp : Option PA} {bn bc : Nat} (hb : Rdr c (bp, bn, bc) LQ bs) (hbl : bs.length ≤ 2147483647) {G : PA → Prop} (hG : Star [c] h G) :
    HT Try.prog fn_laws_wPops [.c (.int .i64 d), .c (.sl sp n cap), .c (.sl bp bn bc)] false [.c .bool] h fun r h' => ∃ post, (r = (true, ()) ∧ post = [c]) ∧ St h G post h' := by
  apply hc_laws_wPops
  unfold M_laws_wPops
  have htl := treeW_len xs
  have hpl := popsR_len (treeW xs) bs
  have hl1 : ((popsX (treeW xs) bs).map zW).length ≤ 4294967296 := by rw [List.length_map, popsX_len]; omega
  have hl2 : ((popsX (treeW xs) bs).map Option.isSome).length ≤ 4294967296 := by rw [List.length_map, popsX_len]; omega
  have hl3 : (popsR (treeW xs) bs).length ≤ 4294967296 := by omega
  refine st_callT (St.start hG) [.ck c] (fun G hG => c_WPopsI hd hx hxl hb hbl hG) ?_
  rintro _ _ _ ⟨w, q, s, rfl, hw, hq, hs, rfl⟩ S
  dsimp only [List.cons_append, List.nil_append] at S
  refine st_callT S [.ck c] (fun G hG => c_WPopsS hx hxl hb hbl hG) ?_
  rintro _ _ _ ⟨w2, q2, s2, t0, rfl, hw2, hq2, hs2, rfl⟩ S
  dsimp only [List.cons_append, List.nil_append] at S
  refine w_mid' none (fun (y : SV [.c .bool]) h' => y = (true, ()) ∧ St h G [c] h') ?_ (fun _ _ ⟨e, S⟩ => by subst e; exact rt_1 rfl ⟨_, ⟨rfl, rfl⟩, S⟩)
  have S := S.ats [.sl w, .sl w2]
  refine st_callT (l := StC [_, _] :: _) (St.st_in (m := [_, _]) S) [.ck (StC [SlC w LW.sz (LW.flat ((popsX (treeW xs) bs).map zW)), SlC w2 LW.sz (LW.flat ((popsX (treeW xs) bs).map zW))])] (fun G hG => c_EqualW (Rdr.st (i := 0) rfl hw.rdr) (Rdr.st (i := 1) rfl hw2.rdr) hl1 hG) ?_
  rintro _ _ _ ⟨rfl, rfl⟩ S
  dsimp only [List.cons_append, List.nil_append] at S
  refine w_true rfl ?_
  have S := S.drop.ats [.sl q, .sl q2]
  refine st_callT (l := StC [_, _] :: _) (St.st_in (m := [_, _]) S) [.ck (StC [SlC q LQ.sz (LQ.flat ((popsX (treeW xs) bs).map Option.isSome)), SlC q2 LQ.sz (LQ.flat ((popsX (treeW xs) bs).map Option.isSome))])] (fun G hG => c_EqQ (Rdr.st (i := 0) rfl hq.rdr) (Rdr.st (i := 1) rfl hq2.rdr) hl2 hG) ?_
  rintro _ _ _ ⟨rfl, rfl⟩ S
  dsimp only [List.cons_append, List.nil_append] at S
  refine w_true rfl ?_
  have S := S.drop.ats [.sl s, .sl t0]
  refine st_callT (l := StC [_, _] :: _) (St.st_in (m := [_, _]) S) [.ck (StC [SlC s LW.sz (LW.flat (popsR (treeW xs) bs)), SlC t0 LW.sz (LW.flat (treeW xs))])] (fun G hG => c_EqualW (Rdr.st (i := 0) rfl hs.rdr) (Rdr.st (i := 1) rfl hs2) hl3 hG) ?_
  rintro _ _ _ ⟨rfl, rfl⟩ S
  dsimp only [List.cons_append, List.nil_append] at S
  exact md_n rfl ⟨rfl, S.only [.ck c]⟩
set_option maxHeartbeats 1000000 in
theorem c_FnExactWPops {hI : H} {d : Int} {xs : List WV} {sp : Option PA} {n cap : Nat} (hx : Rdr (BaC hI) (sp, n, cap) LW xs) {bs : List Bool} {bp : Option PA} {bn bc : Nat} (hb : Rdr (BaC hI) (bp, bn, bc) LQ bs) {G : PA → Prop} (hG : Star [BaC hI] h G) :
    HT Try.prog fn_laws_FnExactWPops [.c (.int .i64 d), .c (.sl sp n cap), .c (.sl bp bn bc)] false [.c .bool] h fun r h' => ∃ post, (r = (true, ()) ∧ post = [BaC hI]) ∧ St h G post h' := by
  apply hc_laws_FnExactWPops
  unfold M_laws_FnExactWPops
  have hn : n = xs.length := hx.1
  have hbn : bn = bs.length := hb.1
  refine w_mid' none (fun (y : SV [.c .bool]) h' => (y = (true, ()) ∨ y = (false, ()) ∧ n ≤ 2147483647 ∧ bn ≤ 2147483647) ∧ St h G [BaC hI] h') ?_ ?_
  · refine st_callT (St.start hG) [.ck (BaC hI)] (fun G hG => c_zzFits2 hx hG) ?_
    rintro _ _ _ ⟨⟨b, rfl, hb⟩, rfl⟩ S
    dsimp only [List.cons_append, List.nil_append] at S
    cases b with
    | false => exact w_true rfl (md_n rfl ⟨.inl rfl, S⟩)
    | true =>
      refine w_false rfl ?_
      by_cases hk : bn > 2147483647
      · exact md_n (x := (true, ())) (by rw [decide_eq_true (by omega)]; rfl) ⟨.inl rfl, S⟩
      · exact md_n (x := (false, ())) (by rw [decide_eq_false (by omega)]; rfl) ⟨.inr ⟨rfl, hb rfl, by omega⟩, S⟩
  rintro _ _ ⟨rfl | ⟨rfl, hz, hz2⟩, S⟩
  · exact w_true rfl (rt_1 rfl ⟨_, ⟨rfl, rfl⟩, S⟩)
  refine w_false rfl ?_
  refine w_mid' none (fun (y : SV [.c .bool]) h' => y = (true, ()) ∧ St h G [BaC hI] h') ?_ (fun _ _ ⟨e, S⟩ => by subst e; exact rt_1 rfl ⟨_, ⟨rfl, rfl⟩, S⟩)
  refine st_callT S [] (fun G hG => c_exWords hG) ?_
  rintro _ _ _ ⟨ne, rfl, rfl⟩ S
  dsimp only [List.cons_append, List.nil_append] at S
  refine st_alloc S fun nb _ S => ?_
  have S : St h G (Ow (nb, 0) (LQ.flat [true, false]) 0 :: _) _ := S
  have S := S.ats [.ow (ne, 0), .ow (nb, 0)]
  refine st_callT (l := StC [Ow (ne, 0) (LW.flat exW) 0, Ow (nb, 0) (LQ.flat [true, false]) 0] :: _) (St.st_in (m := [_, _]) S) [.ck (StC [Ow (ne, 0) (LW.flat exW) 0, Ow (nb, 0) (LQ.flat [true, false]) 0])] (fun G hG => c_wPops (d := 2) (by decide) (Rdr.st (i := 0) rfl (Rdr.ow (xs := exW) rfl)) (by decide) (Rdr.st (i := 1) rfl (Rdr.ow (xs := [true, false]) rfl)) (by decide) hG) ?_
  rintro _ _ _ ⟨rfl, rfl⟩ S
  dsimp only [List.cons_append, List.nil_append] at S
  refine w_true rfl ?_
  refine w_callT c_fit ?_
  rintro _ _ ⟨rfl, rfl⟩
  by_cases hf : 2 ≤ d ∧ d ≤ 128
  · refine w_false (by rw [decide_eq_true hf]; rfl) ?_
    refine st_callT S [.ck (BaC hI)] (fun G hG => c_wPops (by omega) hx (by omega) hb (by omega) hG) ?_
    rintro _ _ _ ⟨rfl, rfl⟩ S
    dsimp only [List.cons_append, List.nil_append] at S
    exact md_n rfl ⟨rfl, S.only [.ck (BaC hI)]⟩
  · exact w_true (by rw [decide_eq_false hf]; rfl) (md_n rfl ⟨rfl, S.only [.ck (BaC hI)]⟩)
end
end Go.Proofs.Ytgniflegbdeokaa
