/-
  The law FnExactGDeleteHint. Conditions: none.
-/
import Derived.Test.YtebiihomlhljkaaYal
import Derived.Test.YtebiihomlhljkaaYdf
import Derived.Test.YtebiihomlhljkaaYhs
import Derived.Test.YtebiihomlhljkaaPf
set_option linter.unusedVariables false
set_option linter.unusedSimpArgs false
set_option linter.unusedSectionVars false
set_option maxRecDepth 100000
namespace Go.Proofs.Ytebiihomlhljkaa
open Go

def M_spec_Drop (a0p : Option PA) (a0l : Nat) (a0c : Nat) (a1p : Option PA) (a1l : Nat) (a1c : Nat) (a20 : Int) (a21 : Int) : M :=
  .alloc ty_impl_Item [.int .i64 (a20), .int .i64 (a21)] fun n0 =>
  .alloc ty_impl_Found [.int .i64 (0), .int .i64 (0), .ff] fun n1 =>
  .load (n0, 0) (.int .i64) fun i2 =>
  .load (n0, 1) (.int .i64) fun i3 =>
  .call fn_spec_Place [.c (.sl (a0p) (a0l) (a0c)), .c (.sl (a1p) (a1l) (a1c)), .agg [.int .i64 (i2), .int .i64 (i3)]] true [.c (.int .i64), .c (.bool)] fun r4 =>
  .ite (!r4.snd.fst)
  (.store (n1, 0) (.int .i64 (0)) <|
    .store (n1, 1) (.int .i64 (0)) <|
    .store (n1, 2) (.ff) <|
    .load (n1, 0) (.int .i64) fun i5 =>
    .load (n1, 1) (.int .i64) fun i6 =>
    .load (n1, 2) (.bool) fun b7 =>
    .done .ret [.c (.sl (a1p) (a1l) (a1c)), .agg [.int .i64 (i5), .int .i64 (i6), .bool (b7)]])
  (.call fn_spec_Cut [.c (.sl (a1p) (a1l) (a1c)), .c (.int .i64 (r4.fst))] true [.c (.sl), .agg [.int .i64, .int .i64, .bool]] fun r8 =>
    .store (n1, 0) (.int .i64 (r8.snd.fst.fst)) <|
    .store (n1, 1) (.int .i64 (r8.snd.fst.snd.fst)) <|
    .store (n1, 2) (.bool (r8.snd.fst.snd.snd.fst)) <|
    .load (n1, 0) (.int .i64) fun i9 =>
    .load (n1, 1) (.int .i64) fun i10 =>
    .load (n1, 2) (.bool) fun b11 =>
    .done .ret [.c (.sl (r8.fst.fst) (r8.fst.snd.fst) (r8.fst.snd.snd)), .agg [.int .i64 (i9), .int .i64 (i10), .bool (b11)]])

theorem den_spec_Drop (a0p : Option PA) (a0l : Nat) (a0c : Nat) (a1p : Option PA) (a1l : Nat) (a1c : Nat) (a20 : Int) (a21 : Int) : denFn Try.prog Try.f94 [.c (.sl a0p a0l a0c), .c (.sl a1p a1l a1c), .agg [.int .i64 a20, .int .i64 a21]] = M_spec_Drop a0p a0l a0c a1p a1l a1c a20 a21 := by kernel_rfl
theorem hc_spec_Drop (a0p : Option PA) (a0l : Nat) (a0c : Nat) (a1p : Option PA) (a1l : Nat) (a1c : Nat) (a20 : Int) (a21 : Int) {h : H} {R : Value → H → Prop} (hw : wp Try.prog (M_spec_Drop a0p a0l a0c a1p a1l a1c a20 a21) (Ret R) h) : HC Try.prog fn_spec_Drop (List.map AV.val [.c (.sl a0p a0l a0c), .c (.sl a1p a1l a1c), .agg [.int .i64 a20, .int .i64 a21]]).toArray h R :=
  den_calls hmix Try.func94 (of_decide_eq_true rfl) (by rw [den_spec_Drop]; exact hw)

def M_spec_GDelete (a00p : Option PA) (a00l : Nat) (a00c : Nat) (a01 : Int) (a02 : Bool) (a1p : Option PA) (a1l : Nat) (a1c : Nat) (a2p : Option PA) (a2l : Nat) (a2c : Nat) : M :=
  .alloc ty_impl_Make [.sl (a00p) (a00l) (a00c), .int .i64 (a01), .bool (a02)] fun n0 =>
  .load (n0, 0) (.sl) fun s1 =>
  .call fn_spec_Tree [.c (.sl (s1.fst) (s1.snd.fst) (s1.snd.snd)), .c (.sl (a1p) (a1l) (a1c))] false [.c (.sl)] fun r2 =>
  .bind (some 0) (.loop [.c (.int .i64), .c (.sl), .c (.sl)] [.c (.int .i64 (0)), .c (.sl none (0) (0)), .c (.sl (r2.fst.fst) (r2.fst.snd.fst) (r2.fst.snd.snd))] fun y3 =>
      .ite (decide (y3.fst < (↑a2l : Int)))
      (.nonnil (a2p) fun p4 =>
        .guard (((0 : Int) ≤ y3.fst) ∧ ((y3.fst : Int) < (↑a2l : Int))) <|
        .load (p4.fst, p4.snd + mulN (Int.toNat y3.fst) 2) (.int .i64) fun i5 =>
        .load (p4.fst, p4.snd + mulN (Int.toNat y3.fst) 2 + 1) (.int .i64) fun i6 =>
        .alloc ty_impl_Item [.int .i64 (0), .int .i64 (0)] fun n7 =>
        .store (n7, 0) (.int .i64 (i5)) <|
        .store (n7, 1) (.int .i64 (i6)) <|
        .alloc ty_impl_Found [.int .i64 (0), .int .i64 (0), .ff] fun n8 =>
        .load (n0, 0) (.sl) fun s9 =>
        .load (n7, 0) (.int .i64) fun i10 =>
        .load (n7, 1) (.int .i64) fun i11 =>
        .call fn_spec_Drop [.c (.sl (s9.fst) (s9.snd.fst) (s9.snd.snd)), .c (.sl (y3.snd.snd.fst.fst) (y3.snd.snd.fst.snd.fst) (y3.snd.snd.fst.snd.snd)), .agg [.int .i64 (i10), .int .i64 (i11)]] true [.c (.sl), .agg [.int .i64, .int .i64, .bool]] fun r12 =>
        .store (n8, 0) (.int .i64 (r12.snd.fst.fst)) <|
        .store (n8, 1) (.int .i64 (r12.snd.fst.snd.fst)) <|
        .store (n8, 2) (.bool (r12.snd.fst.snd.snd.fst)) <|
        .load (n8, 0) (.int .i64) fun i13 =>
        .load (n8, 1) (.int .i64) fun i14 =>
        .load (n8, 2) (.bool) fun b15 =>
        .alloc ty_impl_Found [.int .i64 (i13), .int .i64 (i14), .bool (b15)] fun n16 =>
        .append ty_impl_Found 3 24 [.int .i64 (0), .int .i64 (0), .ff] ((y3.snd.fst.fst), y3.snd.fst.snd.fst, y3.snd.fst.snd.snd) ((some (n16, 0)), 1, 1) fun s17 =>
        .guard (InK IntKind.i64 (y3.fst + 1)) <|
        .done .normal [.c (.int .i64 (y3.fst + 1)), .c (.sl (s17.fst) (s17.snd.fst) (s17.snd.snd)), .c (.sl (r12.fst.fst) (r12.fst.snd.fst) (r12.fst.snd.snd))])
      (.done (.exit 0) [.c (.sl (y3.snd.fst.fst) (y3.snd.fst.snd.fst) (y3.snd.fst.snd.snd)), .c (.sl (y3.snd.snd.fst.fst) (y3.snd.snd.fst.snd.fst) (y3.snd.snd.fst.snd.snd))])) [.c (.sl), .c (.sl)] fun x18 =>
  .done .ret [.c (.sl (x18.fst.fst) (x18.fst.snd.fst) (x18.fst.snd.snd)), .c (.sl (x18.snd.fst.fst) (x18.snd.fst.snd.fst) (x18.snd.fst.snd.snd))]

theorem den_spec_GDelete (a00p : Option PA) (a00l : Nat) (a00c : Nat) (a01 : Int) (a02 : Bool) (a1p : Option PA) (a1l : Nat) (a1c : Nat) (a2p : Option PA) (a2l : Nat) (a2c : Nat) : denFn Try.prog Try.f61 [.agg [.sl a00p a00l a00c, .int .i64 a01, .bool a02], .c (.sl a1p a1l a1c), .c (.sl a2p a2l a2c)] = M_spec_GDelete a00p a00l a00c a01 a02 a1p a1l a1c a2p a2l a2c := by kernel_rfl
theorem hc_spec_GDelete (a00p : Option PA) (a00l : Nat) (a00c : Nat) (a01 : Int) (a02 : Bool) (a1p : Option PA) (a1l : Nat) (a1c : Nat) (a2p : Option PA) (a2l : Nat) (a2c : Nat) {h : H} {R : Value → H → Prop} (hw : wp Try.prog (M_spec_GDelete a00p a00l a00c a01 a02 a1p a1l a1c a2p a2l a2c) (Ret R) h) : HC Try.prog fn_spec_GDelete (List.map AV.val [.agg [.sl a00p a00l a00c, .int .i64 a01, .bool a02], .c (.sl a1p a1l a1c), .c (.sl a2p a2l a2c)]).toArray h R :=
  den_calls hmix Try.func61 (of_decide_eq_true rfl) (by rw [den_spec_GDelete]; exact hw)

def M_impl_GDeleteHint (a00p : Option PA) (a00l : Nat) (a00c : Nat) (a01 : Int) (a02 : Bool) (a1p : Option PA) (a1l : Nat) (a1c : Nat) (a2p : Option PA) (a2l : Nat) (a2c : Nat) : M :=
  .alloc ty_impl_Make [.sl (a00p) (a00l) (a00c), .int .i64 (a01), .bool (a02)] fun n0 =>
  .load (n0, 0) (.sl) fun s1 =>
  .load (n0, 1) (.int .i64) fun i2 =>
  .load (n0, 2) (.bool) fun b3 =>
  .call fn_impl_grow [.agg [.sl (s1.fst) (s1.snd.fst) (s1.snd.snd), .int .i64 (i2), .bool (b3)], .c (.sl (a1p) (a1l) (a1c))] false [.c (.ptr)] fun r4 =>
  .alloc ty_btree_PathHint [.ff, .ff, .ff, .ff, .ff, .ff, .ff, .ff, .int .u8 (0), .int .u8 (0), .int .u8 (0), .int .u8 (0), .int .u8 (0), .int .u8 (0), .int .u8 (0), .int .u8 (0)] fun n5 =>
  .bind (some 0) (.loop [.c (.int .i64), .c (.sl)] [.c (.int .i64 (0)), .c (.sl none (0) (0))] fun y6 =>
      .ite (decide (y6.fst < (↑a2l : Int)))
      (.nonnil (a2p) fun p7 =>
        .guard (((0 : Int) ≤ y6.fst) ∧ ((y6.fst : Int) < (↑a2l : Int))) <|
        .load (p7.fst, p7.snd + mulN (Int.toNat y6.fst) 2) (.int .i64) fun i8 =>
        .load (p7.fst, p7.snd + mulN (Int.toNat y6.fst) 2 + 1) (.int .i64) fun i9 =>
        .alloc ty_impl_Item [.int .i64 (0), .int .i64 (0)] fun n10 =>
        .store (n10, 0) (.int .i64 (i8)) <|
        .store (n10, 1) (.int .i64 (i9)) <|
        .load (n10, 0) (.int .i64) fun i11 =>
        .load (n10, 1) (.int .i64) fun i12 =>
        .call fn_tg_DeleteHint [.c (.ptr (r4.fst)), .agg [.int .i64 (i11), .int .i64 (i12)], .c (.addr (n5, 0))] true [.agg [.int .i64, .int .i64], .c (.bool)] fun r13 =>
        .call fn_impl_found [.agg [.int .i64 (r13.fst.fst), .int .i64 (r13.fst.snd.fst)], .c (.bool (r13.snd.fst))] false [.agg [.int .i64, .int .i64, .bool]] fun r14 =>
        .alloc ty_impl_Found [.int .i64 (r14.fst.fst), .int .i64 (r14.fst.snd.fst), .bool (r14.fst.snd.snd.fst)] fun n15 =>
        .append ty_impl_Found 3 24 [.int .i64 (0), .int .i64 (0), .ff] ((y6.snd.fst.fst), y6.snd.fst.snd.fst, y6.snd.fst.snd.snd) ((some (n15, 0)), 1, 1) fun s16 =>
        .guard (InK IntKind.i64 (y6.fst + 1)) <|
        .done .normal [.c (.int .i64 (y6.fst + 1)), .c (.sl (s16.fst) (s16.snd.fst) (s16.snd.snd))])
      (.done (.exit 0) [.c (.sl (y6.snd.fst.fst) (y6.snd.fst.snd.fst) (y6.snd.fst.snd.snd))])) [.c (.sl)] fun x17 =>
  .call fn_tg_Items [.c (.ptr (r4.fst))] false [.c (.sl)] fun r18 =>
  .done .ret [.c (.sl (x17.fst.fst) (x17.fst.snd.fst) (x17.fst.snd.snd)), .c (.sl (r18.fst.fst) (r18.fst.snd.fst) (r18.fst.snd.snd))]

theorem den_impl_GDeleteHint (a00p : Option PA) (a00l : Nat) (a00c : Nat) (a01 : Int) (a02 : Bool) (a1p : Option PA) (a1l : Nat) (a1c : Nat) (a2p : Option PA) (a2l : Nat) (a2c : Nat) : denFn Try.prog Try.f60 [.agg [.sl a00p a00l a00c, .int .i64 a01, .bool a02], .c (.sl a1p a1l a1c), .c (.sl a2p a2l a2c)] = M_impl_GDeleteHint a00p a00l a00c a01 a02 a1p a1l a1c a2p a2l a2c := by kernel_rfl
theorem hc_impl_GDeleteHint (a00p : Option PA) (a00l : Nat) (a00c : Nat) (a01 : Int) (a02 : Bool) (a1p : Option PA) (a1l : Nat) (a1c : Nat) (a2p : Option PA) (a2l : Nat) (a2c : Nat) {h : H} {R : Value → H → Prop} (hw : wp Try.prog (M_impl_GDeleteHint a00p a00l a00c a01 a02 a1p a1l a1c a2p a2l a2c) (Ret R) h) : HC Try.prog fn_impl_GDeleteHint (List.map AV.val [.agg [.sl a00p a00l a00c, .int .i64 a01, .bool a02], .c (.sl a1p a1l a1c), .c (.sl a2p a2l a2c)]).toArray h R :=
  den_calls hmix Try.func60 (of_decide_eq_true rfl) (by rw [den_impl_GDeleteHint]; exact hw)

def M_laws_gDeleteHint (a00p : Option PA) (a00l : Nat) (a00c : Nat) (a01 : Int) (a02 : Bool) (a1p : Option PA) (a1l : Nat) (a1c : Nat) (a2p : Option PA) (a2l : Nat) (a2c : Nat) : M :=
  .alloc ty_impl_Make [.sl (a00p) (a00l) (a00c), .int .i64 (a01), .bool (a02)] fun n0 =>
  .load (n0, 0) (.sl) fun s1 =>
  .load (n0, 1) (.int .i64) fun i2 =>
  .load (n0, 2) (.bool) fun b3 =>
  .call fn_impl_GDeleteHint [.agg [.sl (s1.fst) (s1.snd.fst) (s1.snd.snd), .int .i64 (i2), .bool (b3)], .c (.sl (a1p) (a1l) (a1c)), .c (.sl (a2p) (a2l) (a2c))] true [.c (.sl), .c (.sl)] fun r4 =>
  .load (n0, 0) (.sl) fun s5 =>
  .load (n0, 1) (.int .i64) fun i6 =>
  .load (n0, 2) (.bool) fun b7 =>
  .call fn_spec_GDelete [.agg [.sl (s5.fst) (s5.snd.fst) (s5.snd.snd), .int .i64 (i6), .bool (b7)], .c (.sl (a1p) (a1l) (a1c)), .c (.sl (a2p) (a2l) (a2c))] true [.c (.sl), .c (.sl)] fun r8 =>
  .bind none (.call fn_slices_Equal_impl_Found_impl_Found [.c (.sl (r4.fst.fst) (r4.fst.snd.fst) (r4.fst.snd.snd)), .c (.sl (r8.fst.fst) (r8.fst.snd.fst) (r8.fst.snd.snd))] false [.c (.bool)] fun r9 =>
    .ite (r9.fst)
    (.call fn_slices_Equal_impl_Item_impl_Item [.c (.sl (r4.snd.fst.fst) (r4.snd.fst.snd.fst) (r4.snd.fst.snd.snd)), .c (.sl (r8.snd.fst.fst) (r8.snd.fst.snd.fst) (r8.snd.fst.snd.snd))] false [.c (.bool)] fun r10 =>
      .done .normal [.c (.bool (r10.fst))])
    (.done .normal [.c (.ff)])) [.c (.bool)] fun x11 =>
  .done .ret [.c (.bool (x11.fst))]

theorem den_laws_gDeleteHint (a00p : Option PA) (a00l : Nat) (a00c : Nat) (a01 : Int) (a02 : Bool) (a1p : Option PA) (a1l : Nat) (a1c : Nat) (a2p : Option PA) (a2l : Nat) (a2c : Nat) : denFn Try.prog Try.f33 [.agg [.sl a00p a00l a00c, .int .i64 a01, .bool a02], .c (.sl a1p a1l a1c), .c (.sl a2p a2l a2c)] = M_laws_gDeleteHint a00p a00l a00c a01 a02 a1p a1l a1c a2p a2l a2c := by kernel_rfl
theorem hc_laws_gDeleteHint (a00p : Option PA) (a00l : Nat) (a00c : Nat) (a01 : Int) (a02 : Bool) (a1p : Option PA) (a1l : Nat) (a1c : Nat) (a2p : Option PA) (a2l : Nat) (a2c : Nat) {h : H} {R : Value → H → Prop} (hw : wp Try.prog (M_laws_gDeleteHint a00p a00l a00c a01 a02 a1p a1l a1c a2p a2l a2c) (Ret R) h) : HC Try.prog fn_laws_gDeleteHint (List.map AV.val [.agg [.sl a00p a00l a00c, .int .i64 a01, .bool a02], .c (.sl a1p a1l a1c), .c (.sl a2p a2l a2c)]).toArray h R :=
  den_calls hmix Try.func33 (of_decide_eq_true rfl) (by rw [den_laws_gDeleteHint]; exact hw)

def M_laws_FnExactGDeleteHint (a00p : Option PA) (a00l : Nat) (a00c : Nat) (a01 : Int) (a02 : Bool) (a1p : Option PA) (a1l : Nat) (a1c : Nat) (a2p : Option PA) (a2l : Nat) (a2c : Nat) : M :=
  .alloc ty_impl_Make [.sl (a00p) (a00l) (a00c), .int .i64 (a01), .bool (a02)] fun n0 =>
  .bind none (.load (n0, 0) (.sl) fun s1 =>
    .load (n0, 1) (.int .i64) fun i2 =>
    .load (n0, 2) (.bool) fun b3 =>
    .call fn_laws_zzFits1 [.agg [.sl (s1.fst) (s1.snd.fst) (s1.snd.snd), .int .i64 (i2), .bool (b3)]] false [.c (.bool)] fun r4 =>
    .ite (!r4.fst)
    (.done .normal [.c (.tt)])
    (.ite (decide ((↑a1l : Int) > 2147483647))
      (.done .normal [.c (.tt)])
      (.done .normal [.c (.bool (decide ((↑a2l : Int) > 2147483647)))]))) [.c (.bool)] fun x5 =>
  .ite (x5.fst)
  (.done .ret [.c (.tt)])
  (.bind none (.call fn_laws_exMake [] false [.agg [.sl, .int .i64, .bool]] fun r6 =>
      .call fn_laws_exItems [] false [.c (.sl)] fun r7 =>
      .call fn_laws_exKeys [] false [.c (.sl)] fun r8 =>
      .call fn_laws_gDeleteHint [.agg [.sl (r6.fst.fst.fst) (r6.fst.fst.snd.fst) (r6.fst.fst.snd.snd), .int .i64 (r6.fst.snd.fst), .bool (r6.fst.snd.snd.fst)], .c (.sl (r7.fst.fst) (r7.fst.snd.fst) (r7.fst.snd.snd)), .c (.sl (r8.fst.fst) (r8.fst.snd.fst) (r8.fst.snd.snd))] false [.c (.bool)] fun r9 =>
      .ite (r9.fst)
      (.load (n0, 1) (.int .i64) fun i10 =>
        .call fn_spec_Fits [.c (.int .i64 (i10))] false [.c (.bool)] fun r11 =>
        .ite (!r11.fst)
        (.done .normal [.c (.tt)])
        (.load (n0, 0) (.sl) fun s12 =>
          .load (n0, 1) (.int .i64) fun i13 =>
          .load (n0, 2) (.bool) fun b14 =>
          .call fn_laws_gDeleteHint [.agg [.sl (s12.fst) (s12.snd.fst) (s12.snd.snd), .int .i64 (i13), .bool (b14)], .c (.sl (a1p) (a1l) (a1c)), .c (.sl (a2p) (a2l) (a2c))] false [.c (.bool)] fun r15 =>
          .done .normal [.c (.bool (r15.fst))]))
      (.done .normal [.c (.ff)])) [.c (.bool)] fun x16 =>
    .done .ret [.c (.bool (x16.fst))])

theorem den_laws_FnExactGDeleteHint (a00p : Option PA) (a00l : Nat) (a00c : Nat) (a01 : Int) (a02 : Bool) (a1p : Option PA) (a1l : Nat) (a1c : Nat) (a2p : Option PA) (a2l : Nat) (a2c : Nat) : denFn Try.prog Try.f6 [.agg [.sl a00p a00l a00c, .int .i64 a01, .bool a02], .c (.sl a1p a1l a1c), .c (.sl a2p a2l a2c)] = M_laws_FnExactGDeleteHint a00p a00l a00c a01 a02 a1p a1l a1c a2p a2l a2c := by kernel_rfl
theorem hc_laws_FnExactGDeleteHint (a00p : Option PA) (a00l : Nat) (a00c : Nat) (a01 : Int) (a02 : Bool) (a1p : Option PA) (a1l : Nat) (a1c : Nat) (a2p : Option PA) (a2l : Nat) (a2c : Nat) {h : H} {R : Value → H → Prop} (hw : wp Try.prog (M_laws_FnExactGDeleteHint a00p a00l a00c a01 a02 a1p a1l a1c a2p a2l a2c) (Ret R) h) : HC Try.prog fn_laws_FnExactGDeleteHint (List.map AV.val [.agg [.sl a00p a00l a00c, .int .i64 a01, .bool a02], .c (.sl a1p a1l a1c), .c (.sl a2p a2l a2c)]).toArray h R :=
  den_calls hmix Try.func6 (of_decide_eq_true rfl) (by rw [den_laws_FnExactGDeleteHint]; exact hw)


/-- What is deleted, one item after the other, and what is left. -/
def delR (o : List Int) (l : List IV) (xs : List IV) : List IV := xs.foldl (fun t x => del (ltO o) t x) l
def delF (o : List Int) : List IV → List IV → List (Option IV)
  | _, [] => []
  | l, x :: xs => fnd (ltO o) l x :: delF o (del (ltO o) l x) xs
theorem delR_snoc (o : List Int) (l xs : List IV) (x : IV) : delR o l (xs ++ [x]) = del (ltO o) (delR o l xs) x := by simp [delR]
theorem delF_snoc (o : List Int) : ∀ (l xs : List IV) (x : IV), delF o l (xs ++ [x]) = delF o l xs ++ [fnd (ltO o) (delR o l xs) x]
  | l, [], x => rfl
  | l, a :: xs, x => by
    show fnd (ltO o) l a :: delF o (del (ltO o) l a) (xs ++ [x]) = _
    rw [delF_snoc]; rfl
theorem delF_len (o : List Int) : ∀ (l xs : List IV), (delF o l xs).length = xs.length
  | _, [] => rfl
  | l, x :: xs => by show (delF o (del (ltO o) l x) xs).length + 1 = _; rw [delF_len]; rfl
theorem del_leO (o : List Int) (l : List IV) (x : IV) : (del (ltO o) l x).length ≤ l.length := by
  have : (del (ltO o) l x).Sublist l := by
    unfold del
    conv => rhs; rw [← List.take_append_drop (pos (ltO o) l x) l]
    refine List.Sublist.append (List.Sublist.refl _) ?_
    rw [← List.drop_drop]
    exact List.drop_sublist _ _
  exact this.length_le
theorem delR_len (o : List Int) (l xs : List IV) : (delR o l xs).length ≤ l.length := by
  induction xs generalizing l with
  | nil => exact Nat.le_refl _
  | cons b bs ih => exact Nat.le_trans (ih (del (ltO o) l b)) (del_leO o l b)
section
variable {h : H}
set_option maxHeartbeats 1000000 in
theorem c_Drop {c : Ck} {o : List Int} {op : Option PA} {on oc : Nat} (hr : Rdr c (op, on, oc) LN o) (hl : o.length ≤ 2147483647) {xs : List IV} {t : SlT} (ht : OwnL LT t xs) (hxl : xs.length ≤ 4294967296) {x : IV} {G : PA → Prop} (hG : Star [c, SlC t LT.sz (LT.flat xs)] h G) :
    HT Try.prog fn_spec_Drop [.c (.sl op on oc), .c (.sl t.1 t.2.1 t.2.2), .agg [.int .i64 x.1, .int .i64 x.2]] true [.c .sl, .agg [.int .i64, .int .i64, .bool]] h fun r h' => ∃ post, (∃ t' : SlT, r = (t', fT (fnd (ltO o) xs x), ()) ∧ OwnL LT t' (del (ltO o) xs x) ∧ post = [c, SlC t' LT.sz (LT.flat (del (ltO o) xs x))]) ∧ St h G post h' := by
  apply hc_spec_Drop
  unfold M_spec_Drop
  refine st_alloc (St.start hG) fun n0 _ S => ?_
  refine st_alloc S fun n1 _ S => ?_
  refine ld_int S rfl (ld_int S rfl ?_)
  (have S := S.ats [.ck c, .sl t]; refine st_callT (l := StC [c, SlC t LT.sz (LT.flat xs)] :: _) (St.st_in (m := [_, _]) S) [.ck (StC [c, SlC t LT.sz (LT.flat xs)])] (fun G hG => c_Place (x := x) (Rdr.st (i := 0) rfl hr) hl (Rdr.st (i := 1) rfl ht.rdr) hxl hG) ?_)
  rintro _ _ _ ⟨rfl, rfl⟩ S
  dsimp only [List.cons_append, List.nil_append] at S
  have S := St.st_out S
  dsimp only [List.cons_append, List.nil_append] at S
  cases hf : fnd (ltO o) xs x with
  | none =>
    have e : del (ltO o) xs x = xs := by unfold del; rw [hf]; simp
    rw [e]
    refine w_true rfl ?_
    refine st_store S (lt_ble rfl) fun _ S => ?_
    refine st_store S (lt_ble rfl) fun _ S => ?_
    refine st_store S (lt_ble rfl) fun _ S => ?_
    refine ld_int S rfl (ld_int S rfl (ld_bool S rfl ?_))
    exact rt_n rfl rfl ⟨_, ⟨t, rfl, ht, rfl⟩, S.only [.ck c, .sl t]⟩
  | some y =>
    obtain ⟨h1, h2, _⟩ := fnd_some_lt hf
    have e : del (ltO o) xs x = xs.eraseIdx (pos (ltO o) xs x) := by unfold del; rw [hf, List.eraseIdx_eq_take_drop_succ]; rfl
    rw [e]
    refine w_false rfl ?_
    refine st_callT S [.sl t] (fun G hG => c_CutIn ht.rdr hxl h2 hG) ?_
    rintro _ _ _ ⟨t', rfl, ht', rfl⟩ S
    dsimp only [List.cons_append, List.nil_append] at S
    refine st_store S (lt_ble rfl) fun _ S => ?_
    refine st_store S (lt_ble rfl) fun _ S => ?_
    refine st_store S (lt_ble rfl) fun _ S => ?_
    refine ld_int S rfl (ld_int S rfl (ld_bool S rfl ?_))
    exact rt_n rfl rfl ⟨_, ⟨t', rfl, ht', rfl⟩, S.only [.ck c, .sl t']⟩
set_option maxHeartbeats 2000000 in
theorem c_specGDelete {c : Ck} {o : List Int} {op : Option PA} {on oc : Nat} (hr : Rdr c (op, on, oc) LN o) (hl : o.length ≤ 2147483647) {d : Int} {nl : Bool} {xs : List IV} {sp : Option PA} {n cap : Nat} (hx : Rdr c (sp, n, cap) LT xs) (hxl : xs.length ≤ 2147483647) {ks : List IV} {kp : Option PA} {kn kc : Nat} (hk : Rdr c (kp, kn, kc) LT ks) (hkl : ks.length ≤ 2147483647) {G : PA → Prop} (hG : Star [c] h G) :
    HT Try.prog fn_spec_GDelete [.agg [.sl op on oc, .int .i64 d, .bool nl], .c (.sl sp n cap), .c (.sl kp kn kc)] true [.c .sl, .c .sl] h fun r h' => ∃ post, (∃ s t : SlT, r = (s, t, ()) ∧ OwnL LF s (delF o (treeO o xs) ks) ∧ OwnL LT t (delR o (treeO o xs) ks) ∧ post = [c, SlC s LF.sz (LF.flat (delF o (treeO o xs) ks)), SlC t LT.sz (LT.flat (delR o (treeO o xs) ks))]) ∧ St h G post h' := by
  apply hc_spec_GDelete
  unfold M_spec_GDelete
  have hn : kn = ks.length := hk.1
  have htl := treeO_len o xs
  refine st_alloc (St.start hG) fun n0 _ S => ?_
  refine ld_sl S op on oc rfl ?_
  refine st_callT S [.ck c] (fun G hG => c_Tree hr hl hx (by omega) hG) ?_
  rintro _ _ _ ⟨t0, rfl, ht0, rfl⟩ S
  dsimp only [List.cons_append, List.nil_append] at S
  have S := sl_nil LF S
  refine w_mid' (some 0) (fun (y : SV [.c .sl, .c .sl]) h' => ∃ s t : SlT, y = (s, t, ()) ∧ OwnL LF s (delF o (treeO o xs) ks) ∧ OwnL LT t (delR o (treeO o xs) ks) ∧ St h G [c, SlC s LF.sz (LF.flat (delF o (treeO o xs) ks)), SlC t LT.sz (LT.flat (delR o (treeO o xs) ks))] h') ?_
    (fun _ _ ⟨s, t, e, h1, h2, S⟩ => by subst e; exact rt_n rfl rfl ⟨_, ⟨s, t, rfl, h1, h2, rfl⟩, S⟩)
  refine w_lp (fun r y h' => ∃ (i : Nat) (s t : SlT), y = ((i : Int), s, t, ()) ∧ i + r = kn ∧ OwnL LF s (delF o (treeO o xs) (ks.take i)) ∧ OwnL LT t (delR o (treeO o xs) (ks.take i)) ∧ St h G [SlC t LT.sz (LT.flat (delR o (treeO o xs) (ks.take i))), SlC s LF.sz (LF.flat (delF o (treeO o xs) (ks.take i))), Ow (n0, 0) (List.map Cell.val [.sl op on oc, .int .i64 d, .bool nl]) 0, c] h') kn rfl
    ⟨0, (none, 0, 0), t0, rfl, by omega, ⟨rfl, Nat.le_refl _, .inl rfl⟩, ht0, S.ats [.sl t0, .sl (none, 0, 0), .ow (n0, 0), .ck c]⟩ ?_
  clear S
  rintro r _ _ ⟨i, s, t, rfl, hi, hs, ht, S⟩
  by_cases hlt : i < kn
  · obtain ⟨p, hp, hrd⟩ := hk.ptr (by omega)
    dsimp only at hp
    subst hp
    have hxi := List.getElem?_eq_getElem (show i < ks.length by omega)
    have hsl : (delF o (treeO o xs) (ks.take i)).length = i := by rw [delF_len, List.length_take]; omega
    have hrl := delR_len o (treeO o xs) (ks.take i)
    obtain ⟨s1, s2, s3⟩ := s
    obtain ⟨t1, t2, t3⟩ := t
    simp only [Int.toNat_natCast, toNat_succ, toNat_succ2, toNat_pred]
    refine w_true (lt_t (by (first | omega | ((try dsimp only [Sh.T, Sh1.T]); omega)))) (w_nonnil (w_guard ⟨by (first | omega | ((try dsimp only [Sh.T, Sh1.T]); omega)), by (first | omega | ((try dsimp only [Sh.T, Sh1.T]); omega))⟩ (w_item (S.rdr hrd) hxi ?_)))
    refine st_alloc S fun n5 _ S => ?_
    refine st_store S (lt_ble rfl) fun _ S => ?_
    refine st_store S (lt_ble rfl) fun _ S => ?_
    refine st_alloc S fun n6 _ S => ?_
    refine ld_sl S op on oc rfl (ld_int S rfl (ld_int S rfl ?_))
    refine st_callT S [.ck c, .sl (t1, t2, t3)] (fun G hG => c_Drop (x := ks[i]) hr hl ht (by omega) hG) ?_
    rintro _ _ _ ⟨t', rfl, ht', rfl⟩ S
    dsimp only [List.cons_append, List.nil_append] at S
    refine st_store S (lt_ble rfl) fun _ S => ?_
    refine st_store S (lt_ble rfl) fun _ S => ?_
    refine st_store S (lt_ble rfl) fun _ S => ?_
    refine ld_int S rfl (ld_int S rfl (ld_bool S rfl ?_))
    refine st_alloc S fun n14 _ S => ?_
    refine st_apo (L := LF) (xs := delF o (treeO o xs) (ks.take i)) (y := fnd (ltO o) (delR o (treeO o xs) (ks.take i)) ks[i]) S hs rfl rfl (S.rsl (LF.flat [_]) 1 1 3 (fun i v h => by rw [Nat.zero_add]; exact h) rfl) ⟨by omega, by omega⟩ fun s' _ hs' S => ?_
    have S := S.only [.sl t', .sl s', .ow (n0, 0), .ck c]
    rw [← delF_snoc, ← take_snoc (by omega)] at hs' S
    rw [← delR_snoc, ← take_snoc (by omega)] at ht' S
    refine w_guard (inK64 (by (first | omega | ((try dsimp only [Sh.T, Sh1.T]); omega))) (by (first | omega | ((try dsimp only [Sh.T, Sh1.T]); omega)))) ?_
    exact ln_n rfl (r - 1) ⟨i + 1, s', t', rfl, by omega, hs', ht', S⟩ (by omega)
  · rw [List.take_of_length_le (by omega)] at hs ht S
    exact w_false (lt_f (by (first | omega | ((try dsimp only [Sh.T, Sh1.T]); omega)))) (ln_e (md_e rfl ⟨s, t, rfl, hs, ht, S.only [.ck c, .sl s, .sl t]⟩))
set_option maxHeartbeats 2000000 in
theorem c_GDeleteHintI {c : Ck} {o : List Int} {op : Option PA} {on oc : Nat} (hr : Rdr c (op, on, oc) LN o) (hl : o.length ≤ 2147483647) {d : Int} {nl : Bool} (hd : d ≤ 128) {xs : List IV} {sp : Option PA} {n cap : Nat} (hx : Rdr c (sp, n, cap) LT xs) (hxl : xs.length ≤ 2147483647) {ks : List IV} {kp : Option PA} {kn kc : Nat} (hk : Rdr c (kp, kn, kc) LT ks) (hkl : ks.length ≤ 2147483647) {G : PA → Prop} (hG : Star [c] h G) :
    HT Try.prog fn_impl_GDeleteHint [.agg [.sl op on oc, .int .i64 d, .bool nl], .c (.sl sp n cap), .c (.sl kp kn kc)] true [.c .sl, .c .sl] h fun r h' => ∃ post, (∃ s t : SlT, r = (s, t, ()) ∧ OwnL LF s (delF o (treeO o xs) ks) ∧ OwnL LT t (delR o (treeO o xs) ks) ∧ post = [c, SlC s LF.sz (LF.flat (delF o (treeO o xs) ks)), SlC t LT.sz (LT.flat (delR o (treeO o xs) ks))]) ∧ St h G post h' := by
  apply hc_impl_GDeleteHint
  unfold M_impl_GDeleteHint
  have hn : kn = ks.length := hk.1
  have htl := treeO_len o xs
  refine st_alloc (St.start hG) fun n0 _ S => ?_
  (refine ld_sl S op on oc rfl (ld_int S rfl (ld_bool S rfl ?_)))
  (refine st_callT S [.ck c] (fun G hG => c_grow hr hl hd hx hxl hG) ?_; rintro _ _ _ ⟨m, f, rfl, rfl⟩ S; dsimp only [List.cons_append, List.nil_append] at S)
  refine st_alloc S fun nh _ S => ?_
  have S : St h G (TG.HtC (some (nh, 0)) :: _) _ := St.ex_in (List.replicate 8 false, List.replicate 8 0) ⟨rfl, rfl, by simp⟩ S
  have S := sl_nil LF S
  refine w_mid' (some 0) (fun (y : SV [.c .sl]) h' => ∃ s : SlT, y = (s, ()) ∧ OwnL LF s (delF o (treeO o xs) ks) ∧ St h G [c, OcC f o, TG.MpC (beF f) o 1 (TG.dgOf d) (m, 0) (delR o (treeO o xs) ks), SlC s LF.sz (LF.flat (delF o (treeO o xs) ks))] h') ?_ ?_
  · refine w_lp (fun r y h' => ∃ (i : Nat) (s : SlT), y = ((i : Int), s, ()) ∧ i + r = kn ∧ OwnL LF s (delF o (treeO o xs) (ks.take i)) ∧ St h G [c, OcC f o, TG.MpC (beF f) o 1 (TG.dgOf d) (m, 0) (delR o (treeO o xs) (ks.take i)), SlC s LF.sz (LF.flat (delF o (treeO o xs) (ks.take i))), TG.HtC (some (nh, 0))] h') kn rfl
      ⟨0, (none, 0, 0), rfl, by omega, ⟨rfl, Nat.le_refl _, .inl rfl⟩, S.only [.ck c, .ck (OcC f o), .mp (m, 0), .sl (none, 0, 0), .ck (TG.HtC (some (nh, 0)))]⟩ ?_
    clear S
    rintro r _ _ ⟨i, s, rfl, hi, hs, S⟩
    by_cases hlt : i < kn
    · obtain ⟨p, hp, hrd⟩ := hk.ptr (by omega)
      dsimp only at hp
      subst hp
      have hxi := List.getElem?_eq_getElem (show i < ks.length by omega)
      have hsl : (delF o (treeO o xs) (ks.take i)).length = i := by rw [delF_len, List.length_take]; omega
      have hrl := delR_len o (treeO o xs) (ks.take i)
      obtain ⟨s1, s2, s3⟩ := s
      simp only [Int.toNat_natCast, toNat_succ, toNat_succ2, toNat_pred]
      refine w_true (lt_t (by (first | omega | ((try dsimp only [Sh.T, Sh1.T]); omega)))) ?_
      repeat (first | refine w_nonnil ?_ | refine ld_int S rfl ?_ | refine ld_some S rfl ?_ | refine ld_ptr S _ rfl ?_ | refine ld_sls S rfl ?_ | refine ld_nil S rfl ?_ | refine ld_bool S rfl ?_ | refine st_store S (lt_ble rfl) fun _ S => ?_ | refine st_alloc S fun _ _ S => ?_ | refine st_held S rfl ?_ | refine w_guard (by (first | exact inK64 (by omega) (by omega) | omega | (constructor <;> omega) | ((try dsimp only [Sh.T, Sh1.T]); first | exact inK64 (by omega) (by omega) | omega | exact ⟨by decide, inK64 (by omega) (by omega)⟩ | trivial))) ?_ | refine bd_n rfl ?_ | refine bd_e rfl ?_ | refine bd_r ?_ | refine bd_p ?_ | refine ln_r ?_ | refine ln_e ?_ | refine w_true (b := true) rfl ?_ | refine w_false (b := false) rfl ?_ | refine w_item (S.rdr hrd) (by assumption) ?_ | refine h_item (S.rdr hrd) (by assumption) ?_ | refine w_num (S.rdr hro) (by assumption) ?_ | refine ld_sln S rfl ?_ | refine ld_sl S _ _ _ rfl ?_)
      refine st_callB S [.mp (m, 0), .ck (TG.HtC (some (nh, 0)))] (fun G hG hb => HT.re (args' := [.c (.addr (m, 0)), .agg [.int .i64 ks[i].1, .int .i64 ks[i].2], .c (.ptr (some (nh, 0)))]) rfl <| TG.c_DeleteHint (k := ks[i]) (.inr (TG.hs_ok (nh, 0))) (lss_before hl) (by omega) (hb (OcC f o) (by simp)) hG) ?_
      rintro _ _ _ ⟨rfl, rfl⟩ S
      dsimp only [List.cons_append, List.nil_append] at S
      refine st_callT S [] (fun G hG => c_found hG) ?_
      rintro _ _ _ ⟨rfl, rfl⟩ S
      rw [itR_f]
      dsimp only [List.cons_append, List.nil_append] at S
      refine st_alloc S fun n6 _ S => ?_
      refine st_apo (L := LF) (xs := delF o (treeO o xs) (ks.take i)) (y := fnd (ltO o) (delR o (treeO o xs) (ks.take i)) ks[i]) S hs rfl rfl (S.rsl (LF.flat [_]) 1 1 3 (fun i v h => by rw [Nat.zero_add]; exact h) rfl) ⟨by omega, by omega⟩ fun s' _ hs' S => ?_
      rw [← delF_snoc, ← take_snoc (by omega)] at hs'
      rw [← delF_snoc, ← delR_snoc, ← take_snoc (by omega)] at S
      refine w_guard (inK64 (by (first | omega | ((try dsimp only [Sh.T, Sh1.T]); omega))) (by (first | omega | ((try dsimp only [Sh.T, Sh1.T]); omega)))) ?_
      exact ln_n rfl (r - 1) ⟨i + 1, s', rfl, by omega, hs', S.only [.ck c, .ck (OcC f o), .mp (m, 0), .sl s', .ck (TG.HtC (some (nh, 0)))]⟩ (by omega)
    · rw [List.take_of_length_le (by omega)] at hs S
      exact w_false (lt_f (by (first | omega | ((try dsimp only [Sh.T, Sh1.T]); omega)))) (ln_e (md_e rfl ⟨s, rfl, hs, S.only [.ck c, .ck (OcC f o), .mp (m, 0), .sl s]⟩))
  · rintro _ _ ⟨s, rfl, hs, S⟩
    have hrl := delR_len o (treeO o xs) ks
    refine st_callV S [.mp (m, 0)] (args' := [.c (.addr (m, 0))]) rfl (fun G hG => c_Items (by omega) hG) ?_
    rintro _ _ _ ⟨t, rfl, ht, rfl⟩ S
    dsimp only [List.cons_append, List.nil_append] at S
    exact rt_n rfl rfl ⟨_, ⟨s, t, rfl, hs, ht, rfl⟩, S.only [.ck c, .sl s, .sl t]⟩
theorem c_gDeleteHint {c : Ck} {o : List Int} {op : Option PA} {on oc : Nat} (hr : Rdr c (op, on, oc) LN o) (hl : o.length ≤ 2147483647) {d : Int} {nl : Bool} (hd : d ≤ 128) {xs : List IV} {sp : Option PA} {n cap : Nat} (hx : Rdr c (sp, n, cap) LT xs) (hxl : xs.length ≤ 2147483647) {ks : List IV} {kp : Option PA} {kn kc : Nat} (hk : Rdr c (kp, kn, kc) LT ks) (hkl : ks.length ≤ 2147483647) {G : PA → Prop} (hG : Star [c] h G) :
    HT Try.prog fn_laws_gDeleteHint [.agg [.sl op on oc, .int .i64 d, .bool nl], .c (.sl sp n cap), .c (.sl kp kn kc)] false [.c .bool] h fun r h' => ∃ post, (r = (true, ()) ∧ post = [c]) ∧ St h G post h' := by
  apply hc_laws_gDeleteHint
  unfold M_laws_gDeleteHint
  have htl := treeO_len o xs
  have hrl := delR_len o (treeO o xs) ks
  have hsl := delF_len o (treeO o xs) ks
  refine st_alloc (St.start hG) fun n0 _ S => ?_
  (refine ld_sl S op on oc rfl (ld_int S rfl (ld_bool S rfl ?_)))
  refine st_callT S [.ck c] (fun G hG => c_GDeleteHintI hr hl hd hx hxl hk hkl hG) ?_
  rintro _ _ _ ⟨s, t, rfl, hs, ht, rfl⟩ S
  dsimp only [List.cons_append, List.nil_append] at S
  (refine ld_sl S op on oc rfl (ld_int S rfl (ld_bool S rfl ?_)))
  refine st_callT S [.ck c] (fun G hG => c_specGDelete hr hl hx hxl hk hkl hG) ?_
  rintro _ _ _ ⟨s2, t2, rfl, hs2, ht2, rfl⟩ S
  dsimp only [List.cons_append, List.nil_append] at S
  refine w_mid' none (fun (y : SV [.c .bool]) h' => y = (true, ()) ∧ St h G [c] h') ?_ (fun _ _ ⟨e, S⟩ => by subst e; exact rt_1 rfl ⟨_, ⟨rfl, rfl⟩, S⟩)
  refine st_eqF S hs hs2 (by omega) fun _ S => w_true rfl ?_
  refine st_eqT S (.sl t) (.sl t2) ht.rdr ht2.rdr (by omega) fun _ S => ?_
  exact md_n rfl ⟨by simp, S.only [.ck c]⟩
set_option maxHeartbeats 1000000 in
theorem c_FnExactGDeleteHint {hI : H} {o : List Int} {op : Option PA} {on oc : Nat} (hr : Rdr (BaC hI) (op, on, oc) LN o) {d : Int} {nl : Bool} {xs : List IV} {sp : Option PA} {n cap : Nat} (hx : Rdr (BaC hI) (sp, n, cap) LT xs) {ks : List IV} {kp : Option PA} {kn kc : Nat} (hk : Rdr (BaC hI) (kp, kn, kc) LT ks) {G : PA → Prop} (hG : Star [BaC hI] h G) :
    HT Try.prog fn_laws_FnExactGDeleteHint [.agg [.sl op on oc, .int .i64 d, .bool nl], .c (.sl sp n cap), .c (.sl kp kn kc)] false [.c .bool] h fun r h' => ∃ post, (r = (true, ()) ∧ post = [BaC hI]) ∧ St h G post h' := by
  apply hc_laws_FnExactGDeleteHint
  unfold M_laws_FnExactGDeleteHint
  have hno : on = o.length := hr.1
  have hn : n = xs.length := hx.1
  refine st_alloc (St.start hG) fun n0 _ S => ?_
  skip
  refine w_mid' none (fun (y : SV [.c .bool]) h' => (y = (true, ()) ∨ y = (false, ()) ∧ on ≤ 2147483647 ∧ n ≤ 2147483647 ∧ kn ≤ 2147483647) ∧ St h G [Ow (n0, 0) (List.map Cell.val [.sl op on oc, .int .i64 d, .bool nl]) 0, BaC hI] h') ?_ ?_
  · refine ld_sl S op on oc rfl (ld_int S rfl (ld_bool S rfl ?_))
    refine st_callT S [] (fun G hG => c_zzFits1 hG) ?_
    rintro _ _ _ ⟨rfl, rfl⟩ S
    dsimp only [List.cons_append, List.nil_append] at S
    by_cases hbo : on > 2147483647
    · exact w_true (by rw [decide_eq_false (by (first | omega | ((try dsimp only [Sh.T, Sh1.T]); omega)))]; rfl) (md_n rfl ⟨.inl rfl, S.only [.ow (n0, 0), .ck (BaC hI)]⟩)
    refine w_false (by rw [decide_eq_true (by (first | omega | ((try dsimp only [Sh.T, Sh1.T]); omega)))]; rfl) ?_
    by_cases hb0 : n > 2147483647
    · exact w_true (decide_eq_true (by omega)) (md_n rfl ⟨.inl rfl, S.only [.ow (n0, 0), .ck (BaC hI)]⟩)
    refine w_false (decide_eq_false (by omega)) ?_
    by_cases hb1 : kn > 2147483647
    · exact md_n (x := (true, ())) (by rw [decide_eq_true (by omega)]; rfl) ⟨.inl rfl, S.only [.ow (n0, 0), .ck (BaC hI)]⟩
    exact md_n (x := (false, ())) (by rw [decide_eq_false (by omega)]; rfl) ⟨.inr ⟨rfl, by omega, by omega, by omega⟩, S.only [.ow (n0, 0), .ck (BaC hI)]⟩
  rintro _ _ ⟨rfl | ⟨rfl, hz0, hz1, hz2⟩, S⟩
  · exact w_true rfl (rt_1 rfl ⟨_, ⟨rfl, rfl⟩, S.only [.ck (BaC hI)]⟩)
  refine w_false rfl ?_
  refine w_mid' none (fun (y : SV [.c .bool]) h' => y = (true, ()) ∧ St h G [BaC hI] h') ?_ (fun _ _ ⟨e, S⟩ => by subst e; exact rt_1 rfl ⟨_, ⟨rfl, rfl⟩, S⟩)
  refine st_callT S [] (fun G hG => c_exMake hG) ?_
  rintro _ _ _ ⟨rfl, rfl⟩ S
  dsimp only [List.cons_append, List.nil_append] at S
  refine st_callT S [] (fun G hG => c_exItems hG) ?_
  rintro _ _ _ ⟨ne, rfl, rfl⟩ S
  dsimp only [List.cons_append, List.nil_append] at S
  (refine st_callT S [] (fun G hG => c_exKeys hG) ?_; rintro _ _ _ ⟨nk, rfl, rfl⟩ S; dsimp only [List.cons_append, List.nil_append] at S; have S := S.ats [.ow (ne, 0), .ow (nk, 0)])
  refine st_callT (l := StC [Ow (ne, 0) (LT.flat exI) 0, Ow (nk, 0) (LT.flat exK) 0] :: _) (St.st_in (m := [_, _]) S) [.ck (StC [Ow (ne, 0) (LT.flat exI) 0, Ow (nk, 0) (LT.flat exK) 0])] (fun G hG => c_gDeleteHint (o := []) Rdr.nil (by decide) (by decide) (Rdr.st (i := 0) rfl (Rdr.ow (xs := exI) rfl)) (by decide) (Rdr.st (i := 1) rfl (Rdr.ow (xs := exK) rfl)) (by decide) hG) ?_
  rintro _ _ _ ⟨rfl, rfl⟩ S
  dsimp only [List.cons_append, List.nil_append] at S
  refine w_true rfl (ld_int S rfl ?_)
  refine w_callT c_Fits ?_
  rintro _ _ ⟨rfl, rfl⟩
  by_cases hf : d = 0 ∨ 2 ≤ d ∧ d ≤ 128
  · refine w_false (by rw [decide_eq_true hf]; rfl) ?_
    refine ld_sl S op on oc rfl (ld_int S rfl (ld_bool S rfl ?_))
    skip
    refine st_callT S [.ck (BaC hI)] (fun G hG => c_gDeleteHint hr (by omega) (by omega) hx (by omega) hk (by have := hk.1; dsimp only at this; omega) hG) ?_
    rintro _ _ _ ⟨rfl, rfl⟩ S
    dsimp only [List.cons_append, List.nil_append] at S
    exact md_n rfl ⟨rfl, S.only [.ck (BaC hI)]⟩
  · exact w_true (by rw [decide_eq_false hf]; rfl) (md_n rfl ⟨rfl, S.only [.ck (BaC hI)]⟩)
end
end Go.Proofs.Ytebiihomlhljkaa
