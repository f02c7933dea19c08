/-
  The laws FnExactBGetHint, FnExactBGetAt, FnExactBDescend, FnExactBDescendHint. Conditions: none.
-/
import Derived.Test.YtlhbdmjeomffhaaZit
set_option linter.unusedVariables false
set_option linter.unusedSimpArgs false
set_option linter.unusedSectionVars false
set_option maxRecDepth 100000
namespace Go.Proofs.Ytlhbdmjeomffhaa
open Go
def M_laws_bGetHint (a00p : Option PA) (a00l : Nat) (a00c : Nat) (a01 : Int) (a02 : Bool) (a1p : Option PA) (a1l : Nat) (a1c : Nat) (a2p : Option PA) (a2l : Nat) (a2c : Nat) : M :=
  .alloc ty_impl_Make [.sl (a00p) (a00l) (a00c), .int .i64 (a01), .bool (a02)] fun n0 =>
  .load (n0, 0) (.sl) fun s1 =>
  .load (n0, 1) (.int .i64) fun i2 =>
  .load (n0, 2) (.bool) fun b3 =>
  .call fn_impl_BGetHint [.agg [.sl (s1.fst) (s1.snd.fst) (s1.snd.snd), .int .i64 (i2), .bool (b3)], .c (.sl (a1p) (a1l) (a1c)), .c (.sl (a2p) (a2l) (a2c))] false [.c (.sl)] fun r4 =>
  .load (n0, 0) (.sl) fun s5 =>
  .load (n0, 1) (.int .i64) fun i6 =>
  .load (n0, 2) (.bool) fun b7 =>
  .call fn_spec_GGet [.agg [.sl (s5.fst) (s5.snd.fst) (s5.snd.snd), .int .i64 (i6), .bool (b7)], .c (.sl (a1p) (a1l) (a1c)), .c (.sl (a2p) (a2l) (a2c))] false [.c (.sl)] fun r8 =>
  .call fn_slices_Equal_impl_Found_impl_Found [.c (.sl (r4.fst.fst) (r4.fst.snd.fst) (r4.fst.snd.snd)), .c (.sl (r8.fst.fst) (r8.fst.snd.fst) (r8.fst.snd.snd))] false [.c (.bool)] fun r9 =>
  .done .ret [.c (.bool (r9.fst))]
theorem den_laws_bGetHint (a00p : Option PA) (a00l : Nat) (a00c : Nat) (a01 : Int) (a02 : Bool) (a1p : Option PA) (a1l : Nat) (a1c : Nat) (a2p : Option PA) (a2l : Nat) (a2c : Nat) : denFn Try.prog Try.f21 [.agg [.sl a00p a00l a00c, .int .i64 a01, .bool a02], .c (.sl a1p a1l a1c), .c (.sl a2p a2l a2c)] = M_laws_bGetHint a00p a00l a00c a01 a02 a1p a1l a1c a2p a2l a2c := by kernel_rfl
theorem hc_laws_bGetHint (a00p : Option PA) (a00l : Nat) (a00c : Nat) (a01 : Int) (a02 : Bool) (a1p : Option PA) (a1l : Nat) (a1c : Nat) (a2p : Option PA) (a2l : Nat) (a2c : Nat) {h : H} {R : Value → H → Prop} (hw : wp Try.prog (M_laws_bGetHint a00p a00l a00c a01 a02 a1p a1l a1c a2p a2l a2c) (Ret R) h) : HC Try.prog fn_laws_bGetHint (List.map AV.val [.agg [.sl a00p a00l a00c, .int .i64 a01, .bool a02], .c (.sl a1p a1l a1c), .c (.sl a2p a2l a2c)]).toArray h R :=
  den_calls hmix Try.func21 (of_decide_eq_true rfl) (by rw [den_laws_bGetHint]; exact hw)
def M_laws_bGetAt (a00p : Option PA) (a00l : Nat) (a00c : Nat) (a01 : Int) (a02 : Bool) (a1p : Option PA) (a1l : Nat) (a1c : Nat) (a2p : Option PA) (a2l : Nat) (a2c : Nat) : M :=
  .alloc ty_impl_Make [.sl (a00p) (a00l) (a00c), .int .i64 (a01), .bool (a02)] fun n0 =>
  .load (n0, 0) (.sl) fun s1 =>
  .load (n0, 1) (.int .i64) fun i2 =>
  .load (n0, 2) (.bool) fun b3 =>
  .call fn_impl_BGetAt [.agg [.sl (s1.fst) (s1.snd.fst) (s1.snd.snd), .int .i64 (i2), .bool (b3)], .c (.sl (a1p) (a1l) (a1c)), .c (.sl (a2p) (a2l) (a2c))] false [.c (.sl)] fun r4 =>
  .load (n0, 0) (.sl) fun s5 =>
  .load (n0, 1) (.int .i64) fun i6 =>
  .load (n0, 2) (.bool) fun b7 =>
  .call fn_spec_GGetAt [.agg [.sl (s5.fst) (s5.snd.fst) (s5.snd.snd), .int .i64 (i6), .bool (b7)], .c (.sl (a1p) (a1l) (a1c)), .c (.sl (a2p) (a2l) (a2c))] false [.c (.sl)] fun r8 =>
  .call fn_slices_Equal_impl_Found_impl_Found [.c (.sl (r4.fst.fst) (r4.fst.snd.fst) (r4.fst.snd.snd)), .c (.sl (r8.fst.fst) (r8.fst.snd.fst) (r8.fst.snd.snd))] false [.c (.bool)] fun r9 =>
  .done .ret [.c (.bool (r9.fst))]
theorem den_laws_bGetAt (a00p : Option PA) (a00l : Nat) (a00c : Nat) (a01 : Int) (a02 : Bool) (a1p : Option PA) (a1l : Nat) (a1c : Nat) (a2p : Option PA) (a2l : Nat) (a2c : Nat) : denFn Try.prog Try.f19 [.agg [.sl a00p a00l a00c, .int .i64 a01, .bool a02], .c (.sl a1p a1l a1c), .c (.sl a2p a2l a2c)] = M_laws_bGetAt a00p a00l a00c a01 a02 a1p a1l a1c a2p a2l a2c := by kernel_rfl
theorem hc_laws_bGetAt (a00p : Option PA) (a00l : Nat) (a00c : Nat) (a01 : Int) (a02 : Bool) (a1p : Option PA) (a1l : Nat) (a1c : Nat) (a2p : Option PA) (a2l : Nat) (a2c : Nat) {h : H} {R : Value → H → Prop} (hw : wp Try.prog (M_laws_bGetAt a00p a00l a00c a01 a02 a1p a1l a1c a2p a2l a2c) (Ret R) h) : HC Try.prog fn_laws_bGetAt (List.map AV.val [.agg [.sl a00p a00l a00c, .int .i64 a01, .bool a02], .c (.sl a1p a1l a1c), .c (.sl a2p a2l a2c)]).toArray h R :=
  den_calls hmix Try.func19 (of_decide_eq_true rfl) (by rw [den_laws_bGetAt]; exact hw)
def M_impl_BDescend (a00p : Option PA) (a00l : Nat) (a00c : Nat) (a01 : Int) (a02 : Bool) (a1p : Option PA) (a1l : Nat) (a1c : Nat) (a2 : Bool) (a30 : Int) (a31 : Int) (a4 : Int) : M :=
  .alloc ty_impl_Make [.sl (a00p) (a00l) (a00c), .int .i64 (a01), .bool (a02)] fun n0 =>
  .alloc ty_impl_Item [.int .i64 (a30), .int .i64 (a31)] fun n1 =>
  .alloc ty_sl_impl_Item [.sl none (0) (0)] fun n2 =>
  .load (n0, 0) (.sl) fun s3 =>
  .load (n0, 1) (.int .i64) fun i4 =>
  .load (n0, 2) (.bool) fun b5 =>
  .load (n1, 0) (.int .i64) fun i6 =>
  .load (n1, 1) (.int .i64) fun i7 =>
  .call fn_impl_growAny [.agg [.sl (s3.fst) (s3.snd.fst) (s3.snd.snd), .int .i64 (i4), .bool (b5)], .c (.sl (a1p) (a1l) (a1c))] false [.c (.ptr)] fun r8 =>
  .held (n1, 0) (.int .i64 (i6)) <|
  .held (n1, 1) (.int .i64 (i7)) <|
  .call fn_impl_from [.c (.bool (a2)), .agg [.int .i64 (i6), .int .i64 (i7)]] false [.c (.raw)] fun r9 =>
  .call fn_impl_takerAny [.c (.addr (n2, 0)), .c (.int .i64 (a4))] false [.c (.raw)] fun r10 =>
  .call fn_BTree_Descend [.c (.ptr (r8.fst)), .c (.raw (r9.fst)), .c (.raw (r10.fst))] true [] fun r11 =>
  .load (n2, 0) (.sl) fun s12 =>
  .done .ret [.c (.sl (s12.fst) (s12.snd.fst) (s12.snd.snd))]
theorem den_impl_BDescend (a00p : Option PA) (a00l : Nat) (a00c : Nat) (a01 : Int) (a02 : Bool) (a1p : Option PA) (a1l : Nat) (a1c : Nat) (a2 : Bool) (a30 : Int) (a31 : Int) (a4 : Int) : denFn Try.prog Try.f47 [.agg [.sl a00p a00l a00c, .int .i64 a01, .bool a02], .c (.sl a1p a1l a1c), .c (.bool a2), .agg [.int .i64 a30, .int .i64 a31], .c (.int .i64 a4)] = M_impl_BDescend a00p a00l a00c a01 a02 a1p a1l a1c a2 a30 a31 a4 := by kernel_rfl
theorem hc_impl_BDescend (a00p : Option PA) (a00l : Nat) (a00c : Nat) (a01 : Int) (a02 : Bool) (a1p : Option PA) (a1l : Nat) (a1c : Nat) (a2 : Bool) (a30 : Int) (a31 : Int) (a4 : Int) {h : H} {R : Value → H → Prop} (hw : wp Try.prog (M_impl_BDescend a00p a00l a00c a01 a02 a1p a1l a1c a2 a30 a31 a4) (Ret R) h) : HC Try.prog fn_impl_BDescend (List.map AV.val [.agg [.sl a00p a00l a00c, .int .i64 a01, .bool a02], .c (.sl a1p a1l a1c), .c (.bool a2), .agg [.int .i64 a30, .int .i64 a31], .c (.int .i64 a4)]).toArray h R :=
  den_calls hmix Try.func47 (of_decide_eq_true rfl) (by rw [den_impl_BDescend]; exact hw)
def M_impl_BDescendHint (a00p : Option PA) (a00l : Nat) (a00c : Nat) (a01 : Int) (a02 : Bool) (a1p : Option PA) (a1l : Nat) (a1c : Nat) (a2 : Bool) (a30 : Int) (a31 : Int) (a4 : Int) : M :=
  .alloc ty_impl_Make [.sl (a00p) (a00l) (a00c), .int .i64 (a01), .bool (a02)] fun n0 =>
  .alloc ty_impl_Item [.int .i64 (a30), .int .i64 (a31)] fun n1 =>
  .alloc ty_sl_impl_Item [.sl none (0) (0)] fun n2 =>
  .bind none (.load (n0, 0) (.sl) fun s3 =>
    .load (n0, 1) (.int .i64) fun i4 =>
    .load (n0, 2) (.bool) fun b5 =>
    .load (n1, 0) (.int .i64) fun i6 =>
    .load (n1, 1) (.int .i64) fun i7 =>
    .both
    (.call fn_impl_growAny [.agg [.sl (s3.fst) (s3.snd.fst) (s3.snd.snd), .int .i64 (i4), .bool (b5)], .c (.sl (a1p) (a1l) (a1c))] false [.c (.ptr)] fun r8 =>
      .held (n1, 0) (.int .i64 (i6)) <|
      .held (n1, 1) (.int .i64 (i7)) <|
      .both
      (.call fn_impl_from [.c (.bool (a2)), .agg [.int .i64 (i6), .int .i64 (i7)]] false [.c (.raw)] fun r9 =>
        .both
        (.call fn_impl_takerAny [.c (.addr (n2, 0)), .c (.int .i64 (a4))] false [.c (.raw)] fun r10 =>
          .alloc ty_btree_PathHint [.ff, .ff, .ff, .ff, .ff, .ff, .ff, .ff, .int .u8 (0), .int .u8 (0), .int .u8 (0), .int .u8 (0), .int .u8 (0), .int .u8 (0), .int .u8 (0), .int .u8 (0)] fun n11 =>
          .call fn_BTree_DescendHint [.c (.ptr (r8.fst)), .c (.raw (r9.fst)), .c (.raw (r10.fst)), .c (.addr (n11, 0))] true [] fun r12 =>
          .done .normal [])
        (.alloc ty_btree_PathHint [.ff, .ff, .ff, .ff, .ff, .ff, .ff, .ff, .int .u8 (0), .int .u8 (0), .int .u8 (0), .int .u8 (0), .int .u8 (0), .int .u8 (0), .int .u8 (0), .int .u8 (0)] fun n13 =>
          .call fn_impl_takerAny [.c (.addr (n2, 0)), .c (.int .i64 (a4))] false [.c (.raw)] fun r14 =>
          .call fn_BTree_DescendHint [.c (.ptr (r8.fst)), .c (.raw (r9.fst)), .c (.raw (r14.fst)), .c (.addr (n13, 0))] true [] fun r15 =>
          .done .normal []))
      (.alloc ty_btree_PathHint [.ff, .ff, .ff, .ff, .ff, .ff, .ff, .ff, .int .u8 (0), .int .u8 (0), .int .u8 (0), .int .u8 (0), .int .u8 (0), .int .u8 (0), .int .u8 (0), .int .u8 (0)] fun n16 =>
        .held (n1, 0) (.int .i64 (i6)) <|
        .held (n1, 1) (.int .i64 (i7)) <|
        .call fn_impl_from [.c (.bool (a2)), .agg [.int .i64 (i6), .int .i64 (i7)]] false [.c (.raw)] fun r17 =>
        .call fn_impl_takerAny [.c (.addr (n2, 0)), .c (.int .i64 (a4))] false [.c (.raw)] fun r18 =>
        .call fn_BTree_DescendHint [.c (.ptr (r8.fst)), .c (.raw (r17.fst)), .c (.raw (r18.fst)), .c (.addr (n16, 0))] true [] fun r19 =>
        .done .normal []))
    (.alloc ty_btree_PathHint [.ff, .ff, .ff, .ff, .ff, .ff, .ff, .ff, .int .u8 (0), .int .u8 (0), .int .u8 (0), .int .u8 (0), .int .u8 (0), .int .u8 (0), .int .u8 (0), .int .u8 (0)] fun n20 =>
      .held (n1, 0) (.int .i64 (i6)) <|
      .held (n1, 1) (.int .i64 (i7)) <|
      .held (n0, 0) (.sl (s3.fst) (s3.snd.fst) (s3.snd.snd)) <|
      .held (n0, 1) (.int .i64 (i4)) <|
      .held (n0, 2) (.bool (b5)) <|
      .call fn_impl_growAny [.agg [.sl (s3.fst) (s3.snd.fst) (s3.snd.snd), .int .i64 (i4), .bool (b5)], .c (.sl (a1p) (a1l) (a1c))] false [.c (.ptr)] fun r21 =>
      .held (n1, 0) (.int .i64 (i6)) <|
      .held (n1, 1) (.int .i64 (i7)) <|
      .call fn_impl_from [.c (.bool (a2)), .agg [.int .i64 (i6), .int .i64 (i7)]] false [.c (.raw)] fun r22 =>
      .call fn_impl_takerAny [.c (.addr (n2, 0)), .c (.int .i64 (a4))] false [.c (.raw)] fun r23 =>
      .call fn_BTree_DescendHint [.c (.ptr (r21.fst)), .c (.raw (r22.fst)), .c (.raw (r23.fst)), .c (.addr (n20, 0))] true [] fun r24 =>
      .done .normal [])) [] fun x25 =>
  .load (n2, 0) (.sl) fun s26 =>
  .done .ret [.c (.sl (s26.fst) (s26.snd.fst) (s26.snd.snd))]
theorem den_impl_BDescendHint (a00p : Option PA) (a00l : Nat) (a00c : Nat) (a01 : Int) (a02 : Bool) (a1p : Option PA) (a1l : Nat) (a1c : Nat) (a2 : Bool) (a30 : Int) (a31 : Int) (a4 : Int) : denFn Try.prog Try.f50 [.agg [.sl a00p a00l a00c, .int .i64 a01, .bool a02], .c (.sl a1p a1l a1c), .c (.bool a2), .agg [.int .i64 a30, .int .i64 a31], .c (.int .i64 a4)] = M_impl_BDescendHint a00p a00l a00c a01 a02 a1p a1l a1c a2 a30 a31 a4 := by kernel_rfl
theorem hc_impl_BDescendHint (a00p : Option PA) (a00l : Nat) (a00c : Nat) (a01 : Int) (a02 : Bool) (a1p : Option PA) (a1l : Nat) (a1c : Nat) (a2 : Bool) (a30 : Int) (a31 : Int) (a4 : Int) {h : H} {R : Value → H → Prop} (hw : wp Try.prog (M_impl_BDescendHint a00p a00l a00c a01 a02 a1p a1l a1c a2 a30 a31 a4) (Ret R) h) : HC Try.prog fn_impl_BDescendHint (List.map AV.val [.agg [.sl a00p a00l a00c, .int .i64 a01, .bool a02], .c (.sl a1p a1l a1c), .c (.bool a2), .agg [.int .i64 a30, .int .i64 a31], .c (.int .i64 a4)]).toArray h R :=
  den_calls hmix Try.func50 (of_decide_eq_true rfl) (by rw [den_impl_BDescendHint]; exact hw)
def M_spec_GReverse (a00p : Option PA) (a00l : Nat) (a00c : Nat) (a01 : Int) (a02 : Bool) (a1p : Option PA) (a1l : Nat) (a1c : Nat) (a2 : Int) : M :=
  .alloc ty_impl_Make [.sl (a00p) (a00l) (a00c), .int .i64 (a01), .bool (a02)] fun n0 =>
  .load (n0, 0) (.sl) fun s1 =>
  .call fn_spec_Tree [.c (.sl (s1.fst) (s1.snd.fst) (s1.snd.snd)), .c (.sl (a1p) (a1l) (a1c))] false [.c (.sl)] fun r2 =>
  .call fn_spec_Turned [.c (.sl (r2.fst.fst) (r2.fst.snd.fst) (r2.fst.snd.snd))] false [.c (.sl)] fun r3 =>
  .call fn_spec_First [.c (.sl (r3.fst.fst) (r3.fst.snd.fst) (r3.fst.snd.snd)), .c (.int .i64 (a2))] false [.c (.sl)] fun r4 =>
  .done .ret [.c (.sl (r4.fst.fst) (r4.fst.snd.fst) (r4.fst.snd.snd))]
theorem den_spec_GReverse (a00p : Option PA) (a00l : Nat) (a00c : Nat) (a01 : Int) (a02 : Bool) (a1p : Option PA) (a1l : Nat) (a1c : Nat) (a2 : Int) : denFn Try.prog Try.f48 [.agg [.sl a00p a00l a00c, .int .i64 a01, .bool a02], .c (.sl a1p a1l a1c), .c (.int .i64 a2)] = M_spec_GReverse a00p a00l a00c a01 a02 a1p a1l a1c a2 := by kernel_rfl
theorem hc_spec_GReverse (a00p : Option PA) (a00l : Nat) (a00c : Nat) (a01 : Int) (a02 : Bool) (a1p : Option PA) (a1l : Nat) (a1c : Nat) (a2 : Int) {h : H} {R : Value → H → Prop} (hw : wp Try.prog (M_spec_GReverse a00p a00l a00c a01 a02 a1p a1l a1c a2) (Ret R) h) : HC Try.prog fn_spec_GReverse (List.map AV.val [.agg [.sl a00p a00l a00c, .int .i64 a01, .bool a02], .c (.sl a1p a1l a1c), .c (.int .i64 a2)]).toArray h R :=
  den_calls hmix Try.func48 (of_decide_eq_true rfl) (by rw [den_spec_GReverse]; exact hw)
def M_spec_GDescend (a00p : Option PA) (a00l : Nat) (a00c : Nat) (a01 : Int) (a02 : Bool) (a1p : Option PA) (a1l : Nat) (a1c : Nat) (a20 : Int) (a21 : Int) (a3 : Int) : M :=
  .alloc ty_impl_Make [.sl (a00p) (a00l) (a00c), .int .i64 (a01), .bool (a02)] fun n0 =>
  .alloc ty_impl_Item [.int .i64 (a20), .int .i64 (a21)] fun n1 =>
  .load (n0, 0) (.sl) fun s2 =>
  .load (n0, 0) (.sl) fun s3 =>
  .load (n1, 0) (.int .i64) fun i4 =>
  .load (n1, 1) (.int .i64) fun i5 =>
  .call fn_spec_Tree [.c (.sl (s3.fst) (s3.snd.fst) (s3.snd.snd)), .c (.sl (a1p) (a1l) (a1c))] false [.c (.sl)] fun r6 =>
  .held (n1, 0) (.int .i64 (i4)) <|
  .held (n1, 1) (.int .i64 (i5)) <|
  .held (n0, 0) (.sl (s2.fst) (s2.snd.fst) (s2.snd.snd)) <|
  .call fn_spec_Down [.c (.sl (s2.fst) (s2.snd.fst) (s2.snd.snd)), .c (.sl (r6.fst.fst) (r6.fst.snd.fst) (r6.fst.snd.snd)), .agg [.int .i64 (i4), .int .i64 (i5)]] false [.c (.sl)] fun r7 =>
  .call fn_spec_First [.c (.sl (r7.fst.fst) (r7.fst.snd.fst) (r7.fst.snd.snd)), .c (.int .i64 (a3))] false [.c (.sl)] fun r8 =>
  .done .ret [.c (.sl (r8.fst.fst) (r8.fst.snd.fst) (r8.fst.snd.snd))]
theorem den_spec_GDescend (a00p : Option PA) (a00l : Nat) (a00c : Nat) (a01 : Int) (a02 : Bool) (a1p : Option PA) (a1l : Nat) (a1c : Nat) (a20 : Int) (a21 : Int) (a3 : Int) : denFn Try.prog Try.f49 [.agg [.sl a00p a00l a00c, .int .i64 a01, .bool a02], .c (.sl a1p a1l a1c), .agg [.int .i64 a20, .int .i64 a21], .c (.int .i64 a3)] = M_spec_GDescend a00p a00l a00c a01 a02 a1p a1l a1c a20 a21 a3 := by kernel_rfl
theorem hc_spec_GDescend (a00p : Option PA) (a00l : Nat) (a00c : Nat) (a01 : Int) (a02 : Bool) (a1p : Option PA) (a1l : Nat) (a1c : Nat) (a20 : Int) (a21 : Int) (a3 : Int) {h : H} {R : Value → H → Prop} (hw : wp Try.prog (M_spec_GDescend a00p a00l a00c a01 a02 a1p a1l a1c a20 a21 a3) (Ret R) h) : HC Try.prog fn_spec_GDescend (List.map AV.val [.agg [.sl a00p a00l a00c, .int .i64 a01, .bool a02], .c (.sl a1p a1l a1c), .agg [.int .i64 a20, .int .i64 a21], .c (.int .i64 a3)]).toArray h R :=
  den_calls hmix Try.func49 (of_decide_eq_true rfl) (by rw [den_spec_GDescend]; exact hw)
def M_laws_bDescend (a00p : Option PA) (a00l : Nat) (a00c : Nat) (a01 : Int) (a02 : Bool) (a1p : Option PA) (a1l : Nat) (a1c : Nat) (a2 : Bool) (a30 : Int) (a31 : Int) (a4 : Int) : M :=
  .alloc ty_impl_Make [.sl (a00p) (a00l) (a00c), .int .i64 (a01), .bool (a02)] fun n0 =>
  .alloc ty_impl_Item [.int .i64 (a30), .int .i64 (a31)] fun n1 =>
  .load (n0, 0) (.sl) fun s2 =>
  .load (n0, 1) (.int .i64) fun i3 =>
  .load (n0, 2) (.bool) fun b4 =>
  .load (n1, 0) (.int .i64) fun i5 =>
  .load (n1, 1) (.int .i64) fun i6 =>
  .call fn_impl_BDescend [.agg [.sl (s2.fst) (s2.snd.fst) (s2.snd.snd), .int .i64 (i3), .bool (b4)], .c (.sl (a1p) (a1l) (a1c)), .c (.bool (a2)), .agg [.int .i64 (i5), .int .i64 (i6)], .c (.int .i64 (a4))] false [.c (.sl)] fun r7 =>
  .ite (a2)
  (.load (n0, 0) (.sl) fun s8 =>
    .load (n0, 1) (.int .i64) fun i9 =>
    .load (n0, 2) (.bool) fun b10 =>
    .call fn_spec_GReverse [.agg [.sl (s8.fst) (s8.snd.fst) (s8.snd.snd), .int .i64 (i9), .bool (b10)], .c (.sl (a1p) (a1l) (a1c)), .c (.int .i64 (a4))] false [.c (.sl)] fun r11 =>
    .call fn_slices_Equal_impl_Item_impl_Item [.c (.sl (r7.fst.fst) (r7.fst.snd.fst) (r7.fst.snd.snd)), .c (.sl (r11.fst.fst) (r11.fst.snd.fst) (r11.fst.snd.snd))] false [.c (.bool)] fun r12 =>
    .done .ret [.c (.bool (r12.fst))])
  (.load (n0, 0) (.sl) fun s13 =>
    .load (n0, 1) (.int .i64) fun i14 =>
    .load (n0, 2) (.bool) fun b15 =>
    .load (n1, 0) (.int .i64) fun i16 =>
    .load (n1, 1) (.int .i64) fun i17 =>
    .call fn_spec_GDescend [.agg [.sl (s13.fst) (s13.snd.fst) (s13.snd.snd), .int .i64 (i14), .bool (b15)], .c (.sl (a1p) (a1l) (a1c)), .agg [.int .i64 (i16), .int .i64 (i17)], .c (.int .i64 (a4))] false [.c (.sl)] fun r18 =>
    .call fn_slices_Equal_impl_Item_impl_Item [.c (.sl (r7.fst.fst) (r7.fst.snd.fst) (r7.fst.snd.snd)), .c (.sl (r18.fst.fst) (r18.fst.snd.fst) (r18.fst.snd.snd))] false [.c (.bool)] fun r19 =>
    .done .ret [.c (.bool (r19.fst))])
theorem den_laws_bDescend (a00p : Option PA) (a00l : Nat) (a00c : Nat) (a01 : Int) (a02 : Bool) (a1p : Option PA) (a1l : Nat) (a1c : Nat) (a2 : Bool) (a30 : Int) (a31 : Int) (a4 : Int) : denFn Try.prog Try.f23 [.agg [.sl a00p a00l a00c, .int .i64 a01, .bool a02], .c (.sl a1p a1l a1c), .c (.bool a2), .agg [.int .i64 a30, .int .i64 a31], .c (.int .i64 a4)] = M_laws_bDescend a00p a00l a00c a01 a02 a1p a1l a1c a2 a30 a31 a4 := by kernel_rfl
theorem hc_laws_bDescend (a00p : Option PA) (a00l : Nat) (a00c : Nat) (a01 : Int) (a02 : Bool) (a1p : Option PA) (a1l : Nat) (a1c : Nat) (a2 : Bool) (a30 : Int) (a31 : Int) (a4 : Int) {h : H} {R : Value → H → Prop} (hw : wp Try.prog (M_laws_bDescend a00p a00l a00c a01 a02 a1p a1l a1c a2 a30 a31 a4) (Ret R) h) : HC Try.prog fn_laws_bDescend (List.map AV.val [.agg [.sl a00p a00l a00c, .int .i64 a01, .bool a02], .c (.sl a1p a1l a1c), .c (.bool a2), .agg [.int .i64 a30, .int .i64 a31], .c (.int .i64 a4)]).toArray h R :=
  den_calls hmix Try.func23 (of_decide_eq_true rfl) (by rw [den_laws_bDescend]; exact hw)
def M_laws_bDescendHint (a00p : Option PA) (a00l : Nat) (a00c : Nat) (a01 : Int) (a02 : Bool) (a1p : Option PA) (a1l : Nat) (a1c : Nat) (a2 : Bool) (a30 : Int) (a31 : Int) (a4 : Int) : M :=
  .alloc ty_impl_Make [.sl (a00p) (a00l) (a00c), .int .i64 (a01), .bool (a02)] fun n0 =>
  .alloc ty_impl_Item [.int .i64 (a30), .int .i64 (a31)] fun n1 =>
  .load (n0, 0) (.sl) fun s2 =>
  .load (n0, 1) (.int .i64) fun i3 =>
  .load (n0, 2) (.bool) fun b4 =>
  .load (n1, 0) (.int .i64) fun i5 =>
  .load (n1, 1) (.int .i64) fun i6 =>
  .call fn_impl_BDescendHint [.agg [.sl (s2.fst) (s2.snd.fst) (s2.snd.snd), .int .i64 (i3), .bool (b4)], .c (.sl (a1p) (a1l) (a1c)), .c (.bool (a2)), .agg [.int .i64 (i5), .int .i64 (i6)], .c (.int .i64 (a4))] false [.c (.sl)] fun r7 =>
  .ite (a2)
  (.load (n0, 0) (.sl) fun s8 =>
    .load (n0, 1) (.int .i64) fun i9 =>
    .load (n0, 2) (.bool) fun b10 =>
    .call fn_spec_GReverse [.agg [.sl (s8.fst) (s8.snd.fst) (s8.snd.snd), .int .i64 (i9), .bool (b10)], .c (.sl (a1p) (a1l) (a1c)), .c (.int .i64 (a4))] false [.c (.sl)] fun r11 =>
    .call fn_slices_Equal_impl_Item_impl_Item [.c (.sl (r7.fst.fst) (r7.fst.snd.fst) (r7.fst.snd.snd)), .c (.sl (r11.fst.fst) (r11.fst.snd.fst) (r11.fst.snd.snd))] false [.c (.bool)] fun r12 =>
    .done .ret [.c (.bool (r12.fst))])
  (.load (n0, 0) (.sl) fun s13 =>
    .load (n0, 1) (.int .i64) fun i14 =>
    .load (n0, 2) (.bool) fun b15 =>
    .load (n1, 0) (.int .i64) fun i16 =>
    .load (n1, 1) (.int .i64) fun i17 =>
    .call fn_spec_GDescend [.agg [.sl (s13.fst) (s13.snd.fst) (s13.snd.snd), .int .i64 (i14), .bool (b15)], .c (.sl (a1p) (a1l) (a1c)), .agg [.int .i64 (i16), .int .i64 (i17)], .c (.int .i64 (a4))] false [.c (.sl)] fun r18 =>
    .call fn_slices_Equal_impl_Item_impl_Item [.c (.sl (r7.fst.fst) (r7.fst.snd.fst) (r7.fst.snd.snd)), .c (.sl (r18.fst.fst) (r18.fst.snd.fst) (r18.fst.snd.snd))] false [.c (.bool)] fun r19 =>
    .done .ret [.c (.bool (r19.fst))])
theorem den_laws_bDescendHint (a00p : Option PA) (a00l : Nat) (a00c : Nat) (a01 : Int) (a02 : Bool) (a1p : Option PA) (a1l : Nat) (a1c : Nat) (a2 : Bool) (a30 : Int) (a31 : Int) (a4 : Int) : denFn Try.prog Try.f24 [.agg [.sl a00p a00l a00c, .int .i64 a01, .bool a02], .c (.sl a1p a1l a1c), .c (.bool a2), .agg [.int .i64 a30, .int .i64 a31], .c (.int .i64 a4)] = M_laws_bDescendHint a00p a00l a00c a01 a02 a1p a1l a1c a2 a30 a31 a4 := by kernel_rfl
theorem hc_laws_bDescendHint (a00p : Option PA) (a00l : Nat) (a00c : Nat) (a01 : Int) (a02 : Bool) (a1p : Option PA) (a1l : Nat) (a1c : Nat) (a2 : Bool) (a30 : Int) (a31 : Int) (a4 : Int) {h : H} {R : Value → H → Prop} (hw : wp Try.prog (M_laws_bDescendHint a00p a00l a00c a01 a02 a1p a1l a1c a2 a30 a31 a4) (Ret R) h) : HC Try.prog fn_laws_bDescendHint (List.map AV.val [.agg [.sl a00p a00l a00c, .int .i64 a01, .bool a02], .c (.sl a1p a1l a1c), .c (.bool a2), .agg [.int .i64 a30, .int .i64 a31], .c (.int .i64 a4)]).toArray h R :=
  den_calls hmix Try.func24 (of_decide_eq_true rfl) (by rw [den_laws_bDescendHint]; exact hw)
def M_laws_FnExactBGetHint (a00p : Option PA) (a00l : Nat) (a00c : Nat) (a01 : Int) (a02 : Bool) (a1p : Option PA) (a1l : Nat) (a1c : Nat) (a2p : Option PA) (a2l : Nat) (a2c : Nat) : M :=
  .alloc ty_impl_Make [.sl (a00p) (a00l) (a00c), .int .i64 (a01), .bool (a02)] fun n0 =>
  .bind none (.load (n0, 0) (.sl) fun s1 =>
    .load (n0, 1) (.int .i64) fun i2 =>
    .load (n0, 2) (.bool) fun b3 =>
    .call fn_laws_zzFits1 [.agg [.sl (s1.fst) (s1.snd.fst) (s1.snd.snd), .int .i64 (i2), .bool (b3)]] false [.c (.bool)] fun r4 =>
    .ite (!r4.fst)
    (.done .normal [.c (.tt)])
    (.ite (decide ((↑a1l : Int) > 2147483647))
      (.done .normal [.c (.tt)])
      (.done .normal [.c (.bool (decide ((↑a2l : Int) > 2147483647)))]))) [.c (.bool)] fun x5 =>
  .ite (x5.fst)
  (.done .ret [.c (.tt)])
  (.bind none (.call fn_laws_exMake [] false [.agg [.sl, .int .i64, .bool]] fun r6 =>
      .call fn_laws_exItems [] false [.c (.sl)] fun r7 =>
      .call fn_laws_exKeys [] false [.c (.sl)] fun r8 =>
      .call fn_laws_bGetHint [.agg [.sl (r6.fst.fst.fst) (r6.fst.fst.snd.fst) (r6.fst.fst.snd.snd), .int .i64 (r6.fst.snd.fst), .bool (r6.fst.snd.snd.fst)], .c (.sl (r7.fst.fst) (r7.fst.snd.fst) (r7.fst.snd.snd)), .c (.sl (r8.fst.fst) (r8.fst.snd.fst) (r8.fst.snd.snd))] false [.c (.bool)] fun r9 =>
      .ite (r9.fst)
      (.load (n0, 1) (.int .i64) fun i10 =>
        .call fn_spec_Fits [.c (.int .i64 (i10))] false [.c (.bool)] fun r11 =>
        .ite (!r11.fst)
        (.done .normal [.c (.tt)])
        (.load (n0, 0) (.sl) fun s12 =>
          .load (n0, 1) (.int .i64) fun i13 =>
          .load (n0, 2) (.bool) fun b14 =>
          .call fn_laws_bGetHint [.agg [.sl (s12.fst) (s12.snd.fst) (s12.snd.snd), .int .i64 (i13), .bool (b14)], .c (.sl (a1p) (a1l) (a1c)), .c (.sl (a2p) (a2l) (a2c))] false [.c (.bool)] fun r15 =>
          .done .normal [.c (.bool (r15.fst))]))
      (.done .normal [.c (.ff)])) [.c (.bool)] fun x16 =>
    .done .ret [.c (.bool (x16.fst))])
theorem den_laws_FnExactBGetHint (a00p : Option PA) (a00l : Nat) (a00c : Nat) (a01 : Int) (a02 : Bool) (a1p : Option PA) (a1l : Nat) (a1c : Nat) (a2p : Option PA) (a2l : Nat) (a2c : Nat) : denFn Try.prog Try.f6 [.agg [.sl a00p a00l a00c, .int .i64 a01, .bool a02], .c (.sl a1p a1l a1c), .c (.sl a2p a2l a2c)] = M_laws_FnExactBGetHint a00p a00l a00c a01 a02 a1p a1l a1c a2p a2l a2c := by kernel_rfl
theorem hc_laws_FnExactBGetHint (a00p : Option PA) (a00l : Nat) (a00c : Nat) (a01 : Int) (a02 : Bool) (a1p : Option PA) (a1l : Nat) (a1c : Nat) (a2p : Option PA) (a2l : Nat) (a2c : Nat) {h : H} {R : Value → H → Prop} (hw : wp Try.prog (M_laws_FnExactBGetHint a00p a00l a00c a01 a02 a1p a1l a1c a2p a2l a2c) (Ret R) h) : HC Try.prog fn_laws_FnExactBGetHint (List.map AV.val [.agg [.sl a00p a00l a00c, .int .i64 a01, .bool a02], .c (.sl a1p a1l a1c), .c (.sl a2p a2l a2c)]).toArray h R :=
  den_calls hmix Try.func6 (of_decide_eq_true rfl) (by rw [den_laws_FnExactBGetHint]; exact hw)
def M_laws_FnExactBDescend (a00p : Option PA) (a00l : Nat) (a00c : Nat) (a01 : Int) (a02 : Bool) (a1p : Option PA) (a1l : Nat) (a1c : Nat) (a2 : Bool) (a30 : Int) (a31 : Int) (a4 : Int) : M :=
  .alloc ty_impl_Make [.sl (a00p) (a00l) (a00c), .int .i64 (a01), .bool (a02)] fun n0 =>
  .alloc ty_impl_Item [.int .i64 (a30), .int .i64 (a31)] fun n1 =>
  .bind none (.load (n0, 0) (.sl) fun s2 =>
    .load (n0, 1) (.int .i64) fun i3 =>
    .load (n0, 2) (.bool) fun b4 =>
    .call fn_laws_zzFits1 [.agg [.sl (s2.fst) (s2.snd.fst) (s2.snd.snd), .int .i64 (i3), .bool (b4)]] false [.c (.bool)] fun r5 =>
    .ite (!r5.fst)
    (.done .normal [.c (.tt)])
    (.done .normal [.c (.bool (decide ((↑a1l : Int) > 2147483647)))])) [.c (.bool)] fun x6 =>
  .ite (x6.fst)
  (.done .ret [.c (.tt)])
  (.bind none (.call fn_laws_exMake [] false [.agg [.sl, .int .i64, .bool]] fun r7 =>
      .call fn_laws_exItems [] false [.c (.sl)] fun r8 =>
      .call fn_laws_bDescend [.agg [.sl (r7.fst.fst.fst) (r7.fst.fst.snd.fst) (r7.fst.fst.snd.snd), .int .i64 (r7.fst.snd.fst), .bool (r7.fst.snd.snd.fst)], .c (.sl (r8.fst.fst) (r8.fst.snd.fst) (r8.fst.snd.snd)), .c (.ff), .agg [.int .i64 (4), .int .i64 (0)], .c (.int .i64 (2))] false [.c (.bool)] fun r9 =>
      .ite (r9.fst)
      (.load (n0, 1) (.int .i64) fun i10 =>
        .call fn_spec_Fits [.c (.int .i64 (i10))] false [.c (.bool)] fun r11 =>
        .ite (!r11.fst)
        (.done .normal [.c (.tt)])
        (.load (n0, 0) (.sl) fun s12 =>
          .load (n0, 1) (.int .i64) fun i13 =>
          .load (n0, 2) (.bool) fun b14 =>
          .load (n1, 0) (.int .i64) fun i15 =>
          .load (n1, 1) (.int .i64) fun i16 =>
          .call fn_laws_bDescend [.agg [.sl (s12.fst) (s12.snd.fst) (s12.snd.snd), .int .i64 (i13), .bool (b14)], .c (.sl (a1p) (a1l) (a1c)), .c (.bool (a2)), .agg [.int .i64 (i15), .int .i64 (i16)], .c (.int .i64 (a4))] false [.c (.bool)] fun r17 =>
          .done .normal [.c (.bool (r17.fst))]))
      (.done .normal [.c (.ff)])) [.c (.bool)] fun x18 =>
    .done .ret [.c (.bool (x18.fst))])
theorem den_laws_FnExactBDescend (a00p : Option PA) (a00l : Nat) (a00c : Nat) (a01 : Int) (a02 : Bool) (a1p : Option PA) (a1l : Nat) (a1c : Nat) (a2 : Bool) (a30 : Int) (a31 : Int) (a4 : Int) : denFn Try.prog Try.f7 [.agg [.sl a00p a00l a00c, .int .i64 a01, .bool a02], .c (.sl a1p a1l a1c), .c (.bool a2), .agg [.int .i64 a30, .int .i64 a31], .c (.int .i64 a4)] = M_laws_FnExactBDescend a00p a00l a00c a01 a02 a1p a1l a1c a2 a30 a31 a4 := by kernel_rfl
theorem hc_laws_FnExactBDescend (a00p : Option PA) (a00l : Nat) (a00c : Nat) (a01 : Int) (a02 : Bool) (a1p : Option PA) (a1l : Nat) (a1c : Nat) (a2 : Bool) (a30 : Int) (a31 : Int) (a4 : Int) {h : H} {R : Value → H → Prop} (hw : wp Try.prog (M_laws_FnExactBDescend a00p a00l a00c a01 a02 a1p a1l a1c a2 a30 a31 a4) (Ret R) h) : HC Try.prog fn_laws_FnExactBDescend (List.map AV.val [.agg [.sl a00p a00l a00c, .int .i64 a01, .bool a02], .c (.sl a1p a1l a1c), .c (.bool a2), .agg [.int .i64 a30, .int .i64 a31], .c (.int .i64 a4)]).toArray h R :=
  den_calls hmix Try.func7 (of_decide_eq_true rfl) (by rw [den_laws_FnExactBDescend]; exact hw)
def M_laws_FnExactBDescendHint (a00p : Option PA) (a00l : Nat) (a00c : Nat) (a01 : Int) (a02 : Bool) (a1p : Option PA) (a1l : Nat) (a1c : Nat) (a2 : Bool) (a30 : Int) (a31 : Int) (a4 : Int) : M :=
  .alloc ty_impl_Make [.sl (a00p) (a00l) (a00c), .int .i64 (a01), .bool (a02)] fun n0 =>
  .alloc ty_impl_Item [.int .i64 (a30), .int .i64 (a31)] fun n1 =>
  .bind none (.load (n0, 0) (.sl) fun s2 =>
    .load (n0, 1) (.int .i64) fun i3 =>
    .load (n0, 2) (.bool) fun b4 =>
    .call fn_laws_zzFits1 [.agg [.sl (s2.fst) (s2.snd.fst) (s2.snd.snd), .int .i64 (i3), .bool (b4)]] false [.c (.bool)] fun r5 =>
    .ite (!r5.fst)
    (.done .normal [.c (.tt)])
    (.done .normal [.c (.bool (decide ((↑a1l : Int) > 2147483647)))])) [.c (.bool)] fun x6 =>
  .ite (x6.fst)
  (.done .ret [.c (.tt)])
  (.bind none (.call fn_laws_exMake [] false [.agg [.sl, .int .i64, .bool]] fun r7 =>
      .call fn_laws_exItems [] false [.c (.sl)] fun r8 =>
      .call fn_laws_bDescendHint [.agg [.sl (r7.fst.fst.fst) (r7.fst.fst.snd.fst) (r7.fst.fst.snd.snd), .int .i64 (r7.fst.snd.fst), .bool (r7.fst.snd.snd.fst)], .c (.sl (r8.fst.fst) (r8.fst.snd.fst) (r8.fst.snd.snd)), .c (.ff), .agg [.int .i64 (4), .int .i64 (0)], .c (.int .i64 (2))] false [.c (.bool)] fun r9 =>
      .ite (r9.fst)
      (.load (n0, 1) (.int .i64) fun i10 =>
        .call fn_spec_Fits [.c (.int .i64 (i10))] false [.c (.bool)] fun r11 =>
        .ite (!r11.fst)
        (.done .normal [.c (.tt)])
        (.load (n0, 0) (.sl) fun s12 =>
          .load (n0, 1) (.int .i64) fun i13 =>
          .load (n0, 2) (.bool) fun b14 =>
          .load (n1, 0) (.int .i64) fun i15 =>
          .load (n1, 1) (.int .i64) fun i16 =>
          .call fn_laws_bDescendHint [.agg [.sl (s12.fst) (s12.snd.fst) (s12.snd.snd), .int .i64 (i13), .bool (b14)], .c (.sl (a1p) (a1l) (a1c)), .c (.bool (a2)), .agg [.int .i64 (i15), .int .i64 (i16)], .c (.int .i64 (a4))] false [.c (.bool)] fun r17 =>
          .done .normal [.c (.bool (r17.fst))]))
      (.done .normal [.c (.ff)])) [.c (.bool)] fun x18 =>
    .done .ret [.c (.bool (x18.fst))])
theorem den_laws_FnExactBDescendHint (a00p : Option PA) (a00l : Nat) (a00c : Nat) (a01 : Int) (a02 : Bool) (a1p : Option PA) (a1l : Nat) (a1c : Nat) (a2 : Bool) (a30 : Int) (a31 : Int) (a4 : Int) : denFn Try.prog Try.f8 [.agg [.sl a00p a00l a00c, .int .i64 a01, .bool a02], .c (.sl a1p a1l a1c), .c (.bool a2), .agg [.int .i64 a30, .int .i64 a31], .c (.int .i64 a4)] = M_laws_FnExactBDescendHint a00p a00l a00c a01 a02 a1p a1l a1c a2 a30 a31 a4 := by kernel_rfl
theorem hc_laws_FnExactBDescendHint (a00p : Option PA) (a00l : Nat) (a00c : Nat) (a01 : Int) (a02 : Bool) (a1p : Option PA) (a1l : Nat) (a1c : Nat) (a2 : Bool) (a30 : Int) (a31 : Int) (a4 : Int) {h : H} {R : Value → H → Prop} (hw : wp Try.prog (M_laws_FnExactBDescendHint a00p a00l a00c a01 a02 a1p a1l a1c a2 a30 a31 a4) (Ret R) h) : HC Try.prog fn_laws_FnExactBDescendHint (List.map AV.val [.agg [.sl a00p a00l a00c, .int .i64 a01, .bool a02], .c (.sl a1p a1l a1c), .c (.bool a2), .agg [.int .i64 a30, .int .i64 a31], .c (.int .i64 a4)]).toArray h R :=
  den_calls hmix Try.func8 (of_decide_eq_true rfl) (by rw [den_laws_FnExactBDescendHint]; exact hw)
def M_laws_exPlaces  : M :=
  .alloc ty_int [.int .i64 (0), .int .i64 (2), .int .i64 (5), .int .i64 (-1), .int .i64 (100)] fun n0 =>
  .done .ret [.c (.sl (some (n0, 0)) (5) (5))]
theorem den_laws_exPlaces  : denFn Try.prog Try.f20 [] = M_laws_exPlaces  := by kernel_rfl
theorem hc_laws_exPlaces  {h : H} {R : Value → H → Prop} (hw : wp Try.prog (M_laws_exPlaces ) (Ret R) h) : HC Try.prog fn_laws_exPlaces (List.map AV.val []).toArray h R :=
  den_calls hmix Try.func20 (of_decide_eq_true rfl) (by rw [den_laws_exPlaces]; exact hw)
def M_laws_FnExactBGetAt (a00p : Option PA) (a00l : Nat) (a00c : Nat) (a01 : Int) (a02 : Bool) (a1p : Option PA) (a1l : Nat) (a1c : Nat) (a2p : Option PA) (a2l : Nat) (a2c : Nat) : M :=
  .alloc ty_impl_Make [.sl (a00p) (a00l) (a00c), .int .i64 (a01), .bool (a02)] fun n0 =>
  .bind none (.load (n0, 0) (.sl) fun s1 =>
    .load (n0, 1) (.int .i64) fun i2 =>
    .load (n0, 2) (.bool) fun b3 =>
    .call fn_laws_zzFits1 [.agg [.sl (s1.fst) (s1.snd.fst) (s1.snd.snd), .int .i64 (i2), .bool (b3)]] false [.c (.bool)] fun r4 =>
    .ite (!r4.fst)
    (.done .normal [.c (.tt)])
    (.ite (decide ((↑a1l : Int) > 2147483647))
      (.done .normal [.c (.tt)])
      (.done .normal [.c (.bool (decide ((↑a2l : Int) > 2147483647)))]))) [.c (.bool)] fun x5 =>
  .ite (x5.fst)
  (.done .ret [.c (.tt)])
  (.bind none (.call fn_laws_exMake [] false [.agg [.sl, .int .i64, .bool]] fun r6 =>
      .call fn_laws_exItems [] false [.c (.sl)] fun r7 =>
      .call fn_laws_exPlaces [] false [.c (.sl)] fun r8 =>
      .call fn_laws_bGetAt [.agg [.sl (r6.fst.fst.fst) (r6.fst.fst.snd.fst) (r6.fst.fst.snd.snd), .int .i64 (r6.fst.snd.fst), .bool (r6.fst.snd.snd.fst)], .c (.sl (r7.fst.fst) (r7.fst.snd.fst) (r7.fst.snd.snd)), .c (.sl (r8.fst.fst) (r8.fst.snd.fst) (r8.fst.snd.snd))] false [.c (.bool)] fun r9 =>
      .ite (r9.fst)
      (.load (n0, 1) (.int .i64) fun i10 =>
        .call fn_spec_Fits [.c (.int .i64 (i10))] false [.c (.bool)] fun r11 =>
        .ite (!r11.fst)
        (.done .normal [.c (.tt)])
        (.load (n0, 0) (.sl) fun s12 =>
          .load (n0, 1) (.int .i64) fun i13 =>
          .load (n0, 2) (.bool) fun b14 =>
          .call fn_laws_bGetAt [.agg [.sl (s12.fst) (s12.snd.fst) (s12.snd.snd), .int .i64 (i13), .bool (b14)], .c (.sl (a1p) (a1l) (a1c)), .c (.sl (a2p) (a2l) (a2c))] false [.c (.bool)] fun r15 =>
          .done .normal [.c (.bool (r15.fst))]))
      (.done .normal [.c (.ff)])) [.c (.bool)] fun x16 =>
    .done .ret [.c (.bool (x16.fst))])
theorem den_laws_FnExactBGetAt (a00p : Option PA) (a00l : Nat) (a00c : Nat) (a01 : Int) (a02 : Bool) (a1p : Option PA) (a1l : Nat) (a1c : Nat) (a2p : Option PA) (a2l : Nat) (a2c : Nat) : denFn Try.prog Try.f5 [.agg [.sl a00p a00l a00c, .int .i64 a01, .bool a02], .c (.sl a1p a1l a1c), .c (.sl a2p a2l a2c)] = M_laws_FnExactBGetAt a00p a00l a00c a01 a02 a1p a1l a1c a2p a2l a2c := by kernel_rfl
theorem hc_laws_FnExactBGetAt (a00p : Option PA) (a00l : Nat) (a00c : Nat) (a01 : Int) (a02 : Bool) (a1p : Option PA) (a1l : Nat) (a1c : Nat) (a2p : Option PA) (a2l : Nat) (a2c : Nat) {h : H} {R : Value → H → Prop} (hw : wp Try.prog (M_laws_FnExactBGetAt a00p a00l a00c a01 a02 a1p a1l a1c a2p a2l a2c) (Ret R) h) : HC Try.prog fn_laws_FnExactBGetAt (List.map AV.val [.agg [.sl a00p a00l a00c, .int .i64 a01, .bool a02], .c (.sl a1p a1l a1c), .c (.sl a2p a2l a2c)]).toArray h R :=
  den_calls hmix Try.func5 (of_decide_eq_true rfl) (by rw [den_laws_FnExactBGetAt]; exact hw)
section
variable {h : H}
theorem firstO_lenB {I : Type} (xs : List I) (k : Int) : (firstO xs k).length ≤ xs.length := by
  unfold firstO
  split
  · exact Nat.le_refl _
  · exact List.length_take_le' _ _
theorem fromD_len (o : List Int) (l : List IV) (x : Option IV) : (fromD o l x).length ≤ l.length := by
  cases x with
  | none => exact Nat.le_of_eq (List.length_reverse ..)
  | some x => exact TB.toO_len o l x
theorem c_bGetHint {c : Ck} {o : List Int} {op : Option PA} {on oc : Nat} (hr : Rdr c (op, on, oc) LN o) (hl : o.length ≤ 2147483647) {d : Int} {nl : Bool} (hd : d ≤ 128) {xs : List IV} {sp : Option PA} {n cap : Nat} (hx : Rdr c (sp, n, cap) LT xs) (hxl : xs.length ≤ 2147483647) {ks : List IV} {kp : Option PA} {kn kc : Nat} (hk : Rdr c (kp, kn, kc) LT ks) (hkl : ks.length ≤ 2147483647) {G : PA → Prop} (hG : Star [c] h G) :
    HT Try.prog fn_laws_bGetHint [.agg [.sl op on oc, .int .i64 d, .bool nl], .c (.sl sp n cap), .c (.sl kp kn kc)] false [.c .bool] h fun r h' => ∃ post, (r = (true, ()) ∧ post = [c]) ∧ St h G post h' := by
  apply hc_laws_bGetHint
  unfold M_laws_bGetHint
  have hgl := getsF_len o (treeO o xs) ks
  refine st_alloc (St.start hG) fun n0 _ S => ?_
  (refine ld_sl S op on oc rfl (ld_int S rfl (ld_bool S rfl ?_)))
  refine st_callT S [.ck c] (fun G hG => c_BGetHintI hr hl hd hx hxl hk hkl hG) ?_
  rintro _ _ _ ⟨s, rfl, hs, rfl⟩ S
  dsimp only [List.cons_append, List.nil_append] at S
  (refine ld_sl S op on oc rfl (ld_int S rfl (ld_bool S rfl ?_)))
  refine st_callT S [.ck c] (fun G hG => c_specGGetO hr hl hx hxl hk hkl hG) ?_
  rintro _ _ _ ⟨s2, rfl, hs2, rfl⟩ S
  dsimp only [List.cons_append, List.nil_append] at S
  refine st_eqF S hs hs2 (by omega) fun _ S => ?_
  exact rt_1 rfl ⟨_, ⟨rfl, rfl⟩, S.only [.ck c]⟩
theorem c_bGetAt {c : Ck} {o : List Int} {op : Option PA} {on oc : Nat} (hr : Rdr c (op, on, oc) LN o) (hl : o.length ≤ 2147483647) {d : Int} {nl : Bool} (hd : d ≤ 128) {xs : List IV} {sp : Option PA} {n cap : Nat} (hx : Rdr c (sp, n, cap) LT xs) (hxl : xs.length ≤ 2147483647) {ks : List Int} {kp : Option PA} {kn kc : Nat} (hk : Rdr c (kp, kn, kc) LN ks) (hkl : ks.length ≤ 2147483647) {G : PA → Prop} (hG : Star [c] h G) :
    HT Try.prog fn_laws_bGetAt [.agg [.sl op on oc, .int .i64 d, .bool nl], .c (.sl sp n cap), .c (.sl kp kn kc)] false [.c .bool] h fun r h' => ∃ post, (r = (true, ()) ∧ post = [c]) ∧ St h G post h' := by
  apply hc_laws_bGetAt
  unfold M_laws_bGetAt
  have hgl := atsF_len (treeO o xs) ks
  refine st_alloc (St.start hG) fun n0 _ S => ?_
  (refine ld_sl S op on oc rfl (ld_int S rfl (ld_bool S rfl ?_)))
  refine st_callT S [.ck c] (fun G hG => c_BGetAtI hr hl hd hx hxl hk hkl hG) ?_
  rintro _ _ _ ⟨s, rfl, hs, rfl⟩ S
  dsimp only [List.cons_append, List.nil_append] at S
  (refine ld_sl S op on oc rfl (ld_int S rfl (ld_bool S rfl ?_)))
  refine st_callT S [.ck c] (fun G hG => c_specGGetAt hr hl hx hxl hk hkl hG) ?_
  rintro _ _ _ ⟨s2, rfl, hs2, rfl⟩ S
  dsimp only [List.cons_append, List.nil_append] at S
  refine st_eqF S hs hs2 (by omega) fun _ S => ?_
  exact rt_1 rfl ⟨_, ⟨rfl, rfl⟩, S.only [.ck c]⟩
set_option maxHeartbeats 1000000 in
theorem c_BDescendI {c : Ck} {o : List Int} {op : Option PA} {on oc : Nat} (hr : Rdr c (op, on, oc) LN o) (hl : o.length ≤ 2147483647) {d : Int} {nl : Bool} (hd : d ≤ 128) {xs : List IV} {sp : Option PA} {n cap : Nat} (hx : Rdr c (sp, n, cap) LT xs) (hxl : xs.length ≤ 2147483647) {b : Bool} {x : IV} {k : Int} {G : PA → Prop} (hG : Star [c] h G) :
    HT Try.prog fn_impl_BDescend [.agg [.sl op on oc, .int .i64 d, .bool nl], .c (.sl sp n cap), .c (.bool b), .agg [.int .i64 x.1, .int .i64 x.2], .c (.int .i64 k)] false [.c .sl] h fun r h' => ∃ post, (∃ s : SlT, r = (s, ()) ∧ OwnL LT s (firstO (fromD o (treeO o xs) (if b then none else some x)) k) ∧ post = [c, SlC s LT.sz (LT.flat (firstO (fromD o (treeO o xs) (if b then none else some x)) k))]) ∧ St h G post h' := by
  apply hc_impl_BDescend
  unfold M_impl_BDescend
  have htl := treeO_len o xs
  have hl1 : (treeO o xs).length ≤ 4294967295 := by omega
  have hl2 : ([] : List IV).length + (treeO o xs).length ≤ 4294967296 := by simp; omega
  refine st_alloc (St.start hG) fun n0 _ S => ?_
  refine st_alloc S fun n9 _ S => ?_
  refine st_alloc S fun n2 _ S => ?_
  (refine ld_sl S op on oc rfl (ld_int S rfl (ld_bool S rfl ?_)))
  refine ld_int S rfl (ld_int S rfl ?_)
  (refine st_callT S [.ck c] (fun G hG => c_growAny hr hl hd hx hxl hG) ?_; rintro _ _ _ ⟨m, p, f, rfl, rfl⟩ S; dsimp only [List.cons_append, List.nil_append] at S)
  refine st_held S rfl (st_held S rfl ?_)
  refine st_callT S [] (fun G hG => c_from (b := b) (x := x) hG) ?_
  rintro _ _ _ ⟨rfl, rfl⟩ S
  dsimp only [List.cons_append, List.nil_append] at S
  refine st_callT S [.ow (n2, 0)] (fun G hG => c_takerAny hG) ?_
  rintro _ _ _ ⟨t, f0, f1, rfl, rfl⟩ S
  dsimp only [List.cons_append, List.nil_append] at S
  refine st_callB S [.ck (TaC t (n2, 0) f0 f1 k []), .mp (m, 0)] (fun G hG hb => HT.re (args' := [.c (.addr (m, 0)), .c (.raw (valO (if b then none else some x))), .c (.raw (taF t))]) rfl <| c_BDescend (lss_any (f := f) hl) (cb_takerAny (n := k)) hl1 hl2 (hb (OaC p f o) (by simp)) hG) ?_
  rintro _ _ _ rfl S
  dsimp only [List.cons_append, List.nil_append] at S
  rw [run_first] at S
  obtain ⟨s, hs, S⟩ := open_ta S
  refine ld_sl S s.1 s.2.1 s.2.2 rfl ?_
  exact rt_1 rfl ⟨_, ⟨s, rfl, hs, rfl⟩, S.only [.ck c, .sl s]⟩
set_option maxHeartbeats 2000000 in
theorem c_BDescendHintI {c : Ck} {o : List Int} {op : Option PA} {on oc : Nat} (hr : Rdr c (op, on, oc) LN o) (hl : o.length ≤ 2147483647) {d : Int} {nl : Bool} (hd : d ≤ 128) {xs : List IV} {sp : Option PA} {n cap : Nat} (hx : Rdr c (sp, n, cap) LT xs) (hxl : xs.length ≤ 2147483647) {b : Bool} {x : IV} {k : Int} {G : PA → Prop} (hG : Star [c] h G) :
    HT Try.prog fn_impl_BDescendHint [.agg [.sl op on oc, .int .i64 d, .bool nl], .c (.sl sp n cap), .c (.bool b), .agg [.int .i64 x.1, .int .i64 x.2], .c (.int .i64 k)] false [.c .sl] h fun r h' => ∃ post, (∃ s : SlT, r = (s, ()) ∧ OwnL LT s (firstO (fromD o (treeO o xs) (if b then none else some x)) k) ∧ post = [c, SlC s LT.sz (LT.flat (firstO (fromD o (treeO o xs) (if b then none else some x)) k))]) ∧ St h G post h' := by
  apply hc_impl_BDescendHint
  unfold M_impl_BDescendHint
  have htl := treeO_len o xs
  have hl1 : (treeO o xs).length ≤ 4294967295 := by omega
  have hl2 : ([] : List IV).length + (treeO o xs).length ≤ 4294967296 := by simp; omega
  refine st_alloc (St.start hG) fun n0 _ S => ?_
  refine st_alloc S fun n9 _ S => ?_
  refine st_alloc S fun n2 _ S => ?_
  refine w_mid' none (fun (_ : SV []) h' => ∃ t f0 f1 : PA, St h G [TaC t (n2, 0) f0 f1 k (run (goN k) [] (fromD o (treeO o xs) (if b then none else some x))).1, c] h') ?_ ?_
  · (refine ld_sl S op on oc rfl (ld_int S rfl (ld_bool S rfl ?_)))
    refine ld_int S rfl (ld_int S rfl (w_both ?_ ?_))
    · (refine st_callT S [.ck c] (fun G hG => c_growAny hr hl hd hx hxl hG) ?_; rintro _ _ _ ⟨m, p, f, rfl, rfl⟩ S; dsimp only [List.cons_append, List.nil_append] at S)
      have S := S.only [.ck c, .ck (OaC p f o), .mp (m, 0), .ow (n9, 0), .ow (n2, 0)]
      refine st_held S rfl (st_held S rfl (w_both ?_ ?_))
      · refine st_callT S [] (fun G hG => c_from (b := b) (x := x) hG) ?_
        rintro _ _ _ ⟨rfl, rfl⟩ S
        dsimp only [List.cons_append, List.nil_append] at S
        refine w_both ?_ ?_
        · refine st_callT S [.ow (n2, 0)] (fun G hG => c_takerAny hG) ?_
          rintro _ _ _ ⟨t, f0, f1, rfl, rfl⟩ S
          dsimp only [List.cons_append, List.nil_append] at S
          refine st_alloc S fun nh _ S => ?_
          have S : St h G (TB.HtC (some (nh, 0)) :: _) _ := St.ex_in (List.replicate 8 false, List.replicate 8 0) ⟨rfl, rfl, by simp⟩ S
          refine st_callB S [.ck (TaC t (n2, 0) f0 f1 k []), .mp (m, 0), .ck (TB.HtC (some (nh, 0)))] (fun G hG hb => HT.re (args' := [.c (.addr (m, 0)), .c (.raw (valO (if b then none else some x))), .c (.raw (taF t)), .c (.ptr (some (nh, 0)))]) rfl <| c_BDescendHint (TB.hs_ok_or _) (lss_any (f := f) hl) (cb_takerAny (n := k)) hl1 hl2 (hb (OaC p f o) (by simp)) hG) ?_
          rintro _ _ _ rfl S
          dsimp only [List.cons_append, List.nil_append] at S
          exact md_n rfl ⟨t, f0, f1, S.only [.ck (TaC t (n2, 0) f0 f1 k (run (goN k) [] (fromD o (treeO o xs) (if b then none else some x))).1), .ck c]⟩
        · refine st_alloc S fun nh _ S => ?_
          have S : St h G (TB.HtC (some (nh, 0)) :: _) _ := St.ex_in (List.replicate 8 false, List.replicate 8 0) ⟨rfl, rfl, by simp⟩ S
          refine st_callT S [.ow (n2, 0)] (fun G hG => c_takerAny hG) ?_
          rintro _ _ _ ⟨t, f0, f1, rfl, rfl⟩ S
          dsimp only [List.cons_append, List.nil_append] at S
          refine st_callB S [.ck (TaC t (n2, 0) f0 f1 k []), .mp (m, 0), .ck (TB.HtC (some (nh, 0)))] (fun G hG hb => HT.re (args' := [.c (.addr (m, 0)), .c (.raw (valO (if b then none else some x))), .c (.raw (taF t)), .c (.ptr (some (nh, 0)))]) rfl <| c_BDescendHint (TB.hs_ok_or _) (lss_any (f := f) hl) (cb_takerAny (n := k)) hl1 hl2 (hb (OaC p f o) (by simp)) hG) ?_
          rintro _ _ _ rfl S
          dsimp only [List.cons_append, List.nil_append] at S
          exact md_n rfl ⟨t, f0, f1, S.only [.ck (TaC t (n2, 0) f0 f1 k (run (goN k) [] (fromD o (treeO o xs) (if b then none else some x))).1), .ck c]⟩
      · refine st_alloc S fun nh _ S => ?_
        have S : St h G (TB.HtC (some (nh, 0)) :: _) _ := St.ex_in (List.replicate 8 false, List.replicate 8 0) ⟨rfl, rfl, by simp⟩ S
        refine st_held S rfl (st_held S rfl ?_)
        refine st_callT S [] (fun G hG => c_from (b := b) (x := x) hG) ?_
        rintro _ _ _ ⟨rfl, rfl⟩ S
        dsimp only [List.cons_append, List.nil_append] at S
        refine st_callT S [.ow (n2, 0)] (fun G hG => c_takerAny hG) ?_
        rintro _ _ _ ⟨t, f0, f1, rfl, rfl⟩ S
        dsimp only [List.cons_append, List.nil_append] at S
        refine st_callB S [.ck (TaC t (n2, 0) f0 f1 k []), .mp (m, 0), .ck (TB.HtC (some (nh, 0)))] (fun G hG hb => HT.re (args' := [.c (.addr (m, 0)), .c (.raw (valO (if b then none else some x))), .c (.raw (taF t)), .c (.ptr (some (nh, 0)))]) rfl <| c_BDescendHint (TB.hs_ok_or _) (lss_any (f := f) hl) (cb_takerAny (n := k)) hl1 hl2 (hb (OaC p f o) (by simp)) hG) ?_
        rintro _ _ _ rfl S
        dsimp only [List.cons_append, List.nil_append] at S
        exact md_n rfl ⟨t, f0, f1, S.only [.ck (TaC t (n2, 0) f0 f1 k (run (goN k) [] (fromD o (treeO o xs) (if b then none else some x))).1), .ck c]⟩
    · refine st_alloc S fun nh _ S => ?_
      have S : St h G (TB.HtC (some (nh, 0)) :: _) _ := St.ex_in (List.replicate 8 false, List.replicate 8 0) ⟨rfl, rfl, by simp⟩ S
      refine st_held S rfl (st_held S rfl (st_held S rfl (st_held S rfl (st_held S rfl ?_))))
      (refine st_callT S [.ck c] (fun G hG => c_growAny hr hl hd hx hxl hG) ?_; rintro _ _ _ ⟨m, p, f, rfl, rfl⟩ S; dsimp only [List.cons_append, List.nil_append] at S)
      refine st_held S rfl (st_held S rfl ?_)
      refine st_callT S [] (fun G hG => c_from (b := b) (x := x) hG) ?_
      rintro _ _ _ ⟨rfl, rfl⟩ S
      dsimp only [List.cons_append, List.nil_append] at S
      refine st_callT S [.ow (n2, 0)] (fun G hG => c_takerAny hG) ?_
      rintro _ _ _ ⟨t, f0, f1, rfl, rfl⟩ S
      dsimp only [List.cons_append, List.nil_append] at S
      refine st_callB S [.ck (TaC t (n2, 0) f0 f1 k []), .mp (m, 0), .ck (TB.HtC (some (nh, 0)))] (fun G hG hb => HT.re (args' := [.c (.addr (m, 0)), .c (.raw (valO (if b then none else some x))), .c (.raw (taF t)), .c (.ptr (some (nh, 0)))]) rfl <| c_BDescendHint (TB.hs_ok_or _) (lss_any (f := f) hl) (cb_takerAny (n := k)) hl1 hl2 (hb (OaC p f o) (by simp)) hG) ?_
      rintro _ _ _ rfl S
      dsimp only [List.cons_append, List.nil_append] at S
      exact md_n rfl ⟨t, f0, f1, S.only [.ck (TaC t (n2, 0) f0 f1 k (run (goN k) [] (fromD o (treeO o xs) (if b then none else some x))).1), .ck c]⟩
  rintro _ _ ⟨t, f0, f1, S⟩
  rw [run_first] at S
  obtain ⟨s, hs, S⟩ := open_ta S
  refine ld_sl S s.1 s.2.1 s.2.2 rfl ?_
  exact rt_1 rfl ⟨_, ⟨s, rfl, hs, rfl⟩, S.only [.ck c, .sl s]⟩
theorem c_GReverse {c : Ck} {o : List Int} {op : Option PA} {on oc : Nat} (hr : Rdr c (op, on, oc) LN o) (hl : o.length ≤ 2147483647) {d : Int} {nl : Bool} {xs : List IV} {sp : Option PA} {n cap : Nat} (hx : Rdr c (sp, n, cap) LT xs) (hxl : xs.length ≤ 2147483647) {k : Int} {G : PA → Prop} (hG : Star [c] h G) :
    HT Try.prog fn_spec_GReverse [.agg [.sl op on oc, .int .i64 d, .bool nl], .c (.sl sp n cap), .c (.int .i64 k)] false [.c .sl] h fun r h' => ∃ post, (∃ s t : SlT, r = (s, ()) ∧ Rdr (SlC t LT.sz (LT.flat (treeO o xs).reverse)) s LT (firstO (treeO o xs).reverse k) ∧ post = [c, SlC t LT.sz (LT.flat (treeO o xs).reverse)]) ∧ St h G post h' := by
  apply hc_spec_GReverse
  unfold M_spec_GReverse
  have htl := treeO_len o xs
  refine st_alloc (St.start hG) fun n0 _ S => ?_
  refine ld_sl S op on oc rfl ?_
  refine st_callT S [.ck c] (fun G hG => c_Tree hr hl hx (by omega) hG) ?_
  rintro _ _ _ ⟨t, rfl, ht, rfl⟩ S
  dsimp only [List.cons_append, List.nil_append] at S
  refine st_callT S [.sl t] (fun G hG => c_Turned ht.rdr (by omega) hG) ?_
  rintro _ _ _ ⟨u, rfl, hu, rfl⟩ S
  dsimp only [List.cons_append, List.nil_append] at S
  refine w_callT (c_First hu.rdr) ?_
  rintro _ _ ⟨⟨s, rfl, hs⟩, rfl⟩
  exact rt_1 rfl ⟨_, ⟨s, u, rfl, hs, rfl⟩, S.only [.ck c, .sl u]⟩
theorem c_GDescend {c : Ck} {o : List Int} {op : Option PA} {on oc : Nat} (hr : Rdr c (op, on, oc) LN o) (hl : o.length ≤ 2147483647) {d : Int} {nl : Bool} {xs : List IV} {sp : Option PA} {n cap : Nat} (hx : Rdr c (sp, n, cap) LT xs) (hxl : xs.length ≤ 2147483647) {x : IV} {k : Int} {G : PA → Prop} (hG : Star [c] h G) :
    HT Try.prog fn_spec_GDescend [.agg [.sl op on oc, .int .i64 d, .bool nl], .c (.sl sp n cap), .agg [.int .i64 x.1, .int .i64 x.2], .c (.int .i64 k)] false [.c .sl] h fun r h' => ∃ post, (∃ s t : SlT, r = (s, ()) ∧ Rdr (SlC t LT.sz (LT.flat (TB.toO o (treeO o xs) x))) s LT (firstO (TB.toO o (treeO o xs) x) k) ∧ post = [c, SlC t LT.sz (LT.flat (TB.toO o (treeO o xs) x))]) ∧ St h G post h' := by
  apply hc_spec_GDescend
  unfold M_spec_GDescend
  have htl := treeO_len o xs
  refine st_alloc (St.start hG) fun n0 _ S => ?_
  refine st_alloc S fun n1 _ S => ?_
  refine ld_sl S op on oc rfl (ld_sl S op on oc rfl (ld_int S rfl (ld_int S rfl ?_)))
  refine st_callT S [.ck c] (fun G hG => c_Tree hr hl hx (by omega) hG) ?_
  rintro _ _ _ ⟨t, rfl, ht, rfl⟩ S
  dsimp only [List.cons_append, List.nil_append] at S
  refine st_held S rfl (st_held S rfl (st_held S rfl ?_))
  (have S := S.ats [.ck c, .sl t]; refine st_callT (l := StC [c, SlC t LT.sz (LT.flat (treeO o xs))] :: _) (St.st_in (m := [_, _]) S) [.ck (StC [c, SlC t LT.sz (LT.flat (treeO o xs))])] (fun G hG => c_Down (x := x) (Rdr.st (i := 0) rfl hr) hl (Rdr.st (i := 1) rfl ht.rdr) (by omega) (treeO_srt o xs) hG) ?_)
  rintro _ _ _ ⟨u, rfl, hu, rfl⟩ S
  dsimp only [List.cons_append, List.nil_append] at S
  have S := St.st_out S
  dsimp only [List.cons_append, List.nil_append] at S
  refine w_callT (c_First hu.rdr) ?_
  rintro _ _ ⟨⟨s, rfl, hs⟩, rfl⟩
  exact rt_1 rfl ⟨_, ⟨s, u, rfl, hs, rfl⟩, S.only [.ck c, .sl u]⟩
theorem c_bDescend {c : Ck} {o : List Int} {op : Option PA} {on oc : Nat} (hr : Rdr c (op, on, oc) LN o) (hl : o.length ≤ 2147483647) {d : Int} {nl : Bool} (hd : d ≤ 128) {xs : List IV} {sp : Option PA} {n cap : Nat} (hx : Rdr c (sp, n, cap) LT xs) (hxl : xs.length ≤ 2147483647) {b : Bool} {x : IV} {k : Int} {G : PA → Prop} (hG : Star [c] h G) :
    HT Try.prog fn_laws_bDescend [.agg [.sl op on oc, .int .i64 d, .bool nl], .c (.sl sp n cap), .c (.bool b), .agg [.int .i64 x.1, .int .i64 x.2], .c (.int .i64 k)] false [.c .bool] h fun r h' => ∃ post, (r = (true, ()) ∧ post = [c]) ∧ St h G post h' := by
  apply hc_laws_bDescend
  unfold M_laws_bDescend
  have htl := treeO_len o xs
  have hfd := fromD_len o (treeO o xs) (if b then none else some x)
  have hfl := firstO_lenB (fromD o (treeO o xs) (if b then none else some x)) k
  have hlen : (firstO (fromD o (treeO o xs) (if b then none else some x)) k).length ≤ 4294967296 := by omega
  refine st_alloc (St.start hG) fun n0 _ S => ?_
  refine st_alloc S fun n1 _ S => ?_
  (refine ld_sl S op on oc rfl (ld_int S rfl (ld_bool S rfl ?_)))
  refine ld_int S rfl (ld_int S rfl ?_)
  refine st_callT S [.ck c] (fun G hG => c_BDescendI (b := b) (x := x) hr hl hd hx hxl hG) ?_
  rintro _ _ _ ⟨s, rfl, hs, rfl⟩ S
  dsimp only [List.cons_append, List.nil_append] at S
  cases b with
  | true =>
    refine w_true rfl ?_
    (refine ld_sl S op on oc rfl (ld_int S rfl (ld_bool S rfl ?_)))
    refine st_callT S [.ck c] (fun G hG => c_GReverse hr hl hx hxl hG) ?_
    rintro _ _ _ ⟨s2, t2, rfl, hs2, rfl⟩ S
    dsimp only [List.cons_append, List.nil_append] at S
    have hs : OwnL LT s (firstO (treeO o xs).reverse k) := hs
    have hlen : (firstO (treeO o xs).reverse k).length ≤ 4294967296 := hlen
    have S := (S.at (.sl s))
    have S : St h G (SlC s LT.sz (LT.flat (firstO (treeO o xs).reverse k)) :: _) _ := S
    refine st_eqT S (.sl s) (.sl t2) hs.rdr hs2 hlen fun _ S => ?_
    exact rt_1 rfl ⟨_, ⟨by simp, rfl⟩, S.only [.ck c]⟩
  | false =>
    refine w_false rfl ?_
    (refine ld_sl S op on oc rfl (ld_int S rfl (ld_bool S rfl ?_)))
    refine ld_int S rfl (ld_int S rfl ?_)
    refine st_callT S [.ck c] (fun G hG => c_GDescend (x := x) hr hl hx hxl hG) ?_
    rintro _ _ _ ⟨s2, t2, rfl, hs2, rfl⟩ S
    dsimp only [List.cons_append, List.nil_append] at S
    have hs : OwnL LT s (firstO (TB.toO o (treeO o xs) x) k) := hs
    have hlen : (firstO (TB.toO o (treeO o xs) x) k).length ≤ 4294967296 := hlen
    have S := (S.at (.sl s))
    have S : St h G (SlC s LT.sz (LT.flat (firstO (TB.toO o (treeO o xs) x) k)) :: _) _ := S
    refine st_eqT S (.sl s) (.sl t2) hs.rdr hs2 hlen fun _ S => ?_
    exact rt_1 rfl ⟨_, ⟨by simp, rfl⟩, S.only [.ck c]⟩
theorem c_bDescendHint {c : Ck} {o : List Int} {op : Option PA} {on oc : Nat} (hr : Rdr c (op, on, oc) LN o) (hl : o.length ≤ 2147483647) {d : Int} {nl : Bool} (hd : d ≤ 128) {xs : List IV} {sp : Option PA} {n cap : Nat} (hx : Rdr c (sp, n, cap) LT xs) (hxl : xs.length ≤ 2147483647) {b : Bool} {x : IV} {k : Int} {G : PA → Prop} (hG : Star [c] h G) :
    HT Try.prog fn_laws_bDescendHint [.agg [.sl op on oc, .int .i64 d, .bool nl], .c (.sl sp n cap), .c (.bool b), .agg [.int .i64 x.1, .int .i64 x.2], .c (.int .i64 k)] false [.c .bool] h fun r h' => ∃ post, (r = (true, ()) ∧ post = [c]) ∧ St h G post h' := by
  apply hc_laws_bDescendHint
  unfold M_laws_bDescendHint
  have htl := treeO_len o xs
  have hfd := fromD_len o (treeO o xs) (if b then none else some x)
  have hfl := firstO_lenB (fromD o (treeO o xs) (if b then none else some x)) k
  have hlen : (firstO (fromD o (treeO o xs) (if b then none else some x)) k).length ≤ 4294967296 := by omega
  refine st_alloc (St.start hG) fun n0 _ S => ?_
  refine st_alloc S fun n1 _ S => ?_
  (refine ld_sl S op on oc rfl (ld_int S rfl (ld_bool S rfl ?_)))
  refine ld_int S rfl (ld_int S rfl ?_)
  refine st_callT S [.ck c] (fun G hG => c_BDescendHintI (b := b) (x := x) hr hl hd hx hxl hG) ?_
  rintro _ _ _ ⟨s, rfl, hs, rfl⟩ S
  dsimp only [List.cons_append, List.nil_append] at S
  cases b with
  | true =>
    refine w_true rfl ?_
    (refine ld_sl S op on oc rfl (ld_int S rfl (ld_bool S rfl ?_)))
    refine st_callT S [.ck c] (fun G hG => c_GReverse hr hl hx hxl hG) ?_
    rintro _ _ _ ⟨s2, t2, rfl, hs2, rfl⟩ S
    dsimp only [List.cons_append, List.nil_append] at S
    have hs : OwnL LT s (firstO (treeO o xs).reverse k) := hs
    have hlen : (firstO (treeO o xs).reverse k).length ≤ 4294967296 := hlen
    have S := (S.at (.sl s))
    have S : St h G (SlC s LT.sz (LT.flat (firstO (treeO o xs).reverse k)) :: _) _ := S
    refine st_eqT S (.sl s) (.sl t2) hs.rdr hs2 hlen fun _ S => ?_
    exact rt_1 rfl ⟨_, ⟨by simp, rfl⟩, S.only [.ck c]⟩
  | false =>
    refine w_false rfl ?_
    (refine ld_sl S op on oc rfl (ld_int S rfl (ld_bool S rfl ?_)))
    refine ld_int S rfl (ld_int S rfl ?_)
    refine st_callT S [.ck c] (fun G hG => c_GDescend (x := x) hr hl hx hxl hG) ?_
    rintro _ _ _ ⟨s2, t2, rfl, hs2, rfl⟩ S
    dsimp only [List.cons_append, List.nil_append] at S
    have hs : OwnL LT s (firstO (TB.toO o (treeO o xs) x) k) := hs
    have hlen : (firstO (TB.toO o (treeO o xs) x) k).length ≤ 4294967296 := hlen
    have S := (S.at (.sl s))
    have S : St h G (SlC s LT.sz (LT.flat (firstO (TB.toO o (treeO o xs) x) k)) :: _) _ := S
    refine st_eqT S (.sl s) (.sl t2) hs.rdr hs2 hlen fun _ S => ?_
    exact rt_1 rfl ⟨_, ⟨by simp, rfl⟩, S.only [.ck c]⟩
set_option maxHeartbeats 1000000 in
theorem c_FnExactBGetHint {hI : H} {o : List Int} {op : Option PA} {on oc : Nat} (hr : Rdr (BaC hI) (op, on, oc) LN o) {d : Int} {nl : Bool} {xs : List IV} {sp : Option PA} {n cap : Nat} (hx : Rdr (BaC hI) (sp, n, cap) LT xs) {ks : List IV} {kp : Option PA} {kn kc : Nat} (hk : Rdr (BaC hI) (kp, kn, kc) LT ks) {G : PA → Prop} (hG : Star [BaC hI] h G) :
    HT Try.prog fn_laws_FnExactBGetHint [.agg [.sl op on oc, .int .i64 d, .bool nl], .c (.sl sp n cap), .c (.sl kp kn kc)] false [.c .bool] h fun r h' => ∃ post, (r = (true, ()) ∧ post = [BaC hI]) ∧ St h G post h' := by
  apply hc_laws_FnExactBGetHint
  unfold M_laws_FnExactBGetHint
  have hno : on = o.length := hr.1
  have hn : n = xs.length := hx.1
  refine st_alloc (St.start hG) fun n0 _ S => ?_
  skip
  refine w_mid' none (fun (y : SV [.c .bool]) h' => (y = (true, ()) ∨ y = (false, ()) ∧ on ≤ 2147483647 ∧ n ≤ 2147483647 ∧ kn ≤ 2147483647) ∧ St h G [Ow (n0, 0) (List.map Cell.val [.sl op on oc, .int .i64 d, .bool nl]) 0, BaC hI] h') ?_ ?_
  · refine ld_sl S op on oc rfl (ld_int S rfl (ld_bool S rfl ?_))
    refine st_callT S [] (fun G hG => c_zzFits1 hG) ?_
    rintro _ _ _ ⟨rfl, rfl⟩ S
    dsimp only [List.cons_append, List.nil_append] at S
    by_cases hbo : on > 2147483647
    · exact w_true (by rw [decide_eq_false (by (first | omega | ((try dsimp only [Sh.T, Sh1.T]); omega)))]; rfl) (md_n rfl ⟨.inl rfl, S.only [.ow (n0, 0), .ck (BaC hI)]⟩)
    refine w_false (by rw [decide_eq_true (by (first | omega | ((try dsimp only [Sh.T, Sh1.T]); omega)))]; rfl) ?_
    by_cases hb0 : n > 2147483647
    · exact w_true (decide_eq_true (by omega)) (md_n rfl ⟨.inl rfl, S.only [.ow (n0, 0), .ck (BaC hI)]⟩)
    refine w_false (decide_eq_false (by omega)) ?_
    by_cases hb1 : kn > 2147483647
    · exact md_n (x := (true, ())) (by rw [decide_eq_true (by omega)]; rfl) ⟨.inl rfl, S.only [.ow (n0, 0), .ck (BaC hI)]⟩
    exact md_n (x := (false, ())) (by rw [decide_eq_false (by omega)]; rfl) ⟨.inr ⟨rfl, by omega, by omega, by omega⟩, S.only [.ow (n0, 0), .ck (BaC hI)]⟩
  rintro _ _ ⟨rfl | ⟨rfl, hz0, hz1, hz2⟩, S⟩
  · exact w_true rfl (rt_1 rfl ⟨_, ⟨rfl, rfl⟩, S.only [.ck (BaC hI)]⟩)
  refine w_false rfl ?_
  refine w_mid' none (fun (y : SV [.c .bool]) h' => y = (true, ()) ∧ St h G [BaC hI] h') ?_ (fun _ _ ⟨e, S⟩ => by subst e; exact rt_1 rfl ⟨_, ⟨rfl, rfl⟩, S⟩)
  refine st_callT S [] (fun G hG => c_exMake hG) ?_
  rintro _ _ _ ⟨rfl, rfl⟩ S
  dsimp only [List.cons_append, List.nil_append] at S
  refine st_callT S [] (fun G hG => c_exItems hG) ?_
  rintro _ _ _ ⟨ne, rfl, rfl⟩ S
  dsimp only [List.cons_append, List.nil_append] at S
  (refine st_callT S [] (fun G hG => c_exKeys hG) ?_; rintro _ _ _ ⟨nk, rfl, rfl⟩ S; dsimp only [List.cons_append, List.nil_append] at S; have S := S.ats [.ow (ne, 0), .ow (nk, 0)])
  refine st_callT (l := StC [Ow (ne, 0) (LT.flat exI) 0, Ow (nk, 0) (LT.flat exK) 0] :: _) (St.st_in (m := [_, _]) S) [.ck (StC [Ow (ne, 0) (LT.flat exI) 0, Ow (nk, 0) (LT.flat exK) 0])] (fun G hG => c_bGetHint (o := []) Rdr.nil (by decide) (by decide) (Rdr.st (i := 0) rfl (Rdr.ow (xs := exI) rfl)) (by decide) (Rdr.st (i := 1) rfl (Rdr.ow (xs := exK) rfl)) (by decide) hG) ?_
  rintro _ _ _ ⟨rfl, rfl⟩ S
  dsimp only [List.cons_append, List.nil_append] at S
  refine w_true rfl (ld_int S rfl ?_)
  refine w_callT c_Fits ?_
  rintro _ _ ⟨rfl, rfl⟩
  by_cases hf : d = 0 ∨ 2 ≤ d ∧ d ≤ 128
  · refine w_false (by rw [decide_eq_true hf]; rfl) ?_
    refine ld_sl S op on oc rfl (ld_int S rfl (ld_bool S rfl ?_))
    skip
    refine st_callT S [.ck (BaC hI)] (fun G hG => c_bGetHint hr (by omega) (by omega) hx (by omega) hk (by have := hk.1; dsimp only at this; omega) hG) ?_
    rintro _ _ _ ⟨rfl, rfl⟩ S
    dsimp only [List.cons_append, List.nil_append] at S
    exact md_n rfl ⟨rfl, S.only [.ck (BaC hI)]⟩
  · exact w_true (by rw [decide_eq_false hf]; rfl) (md_n rfl ⟨rfl, S.only [.ck (BaC hI)]⟩)
set_option maxHeartbeats 1000000 in
theorem c_FnExactBDescend {hI : H} {o : List Int} {op : Option PA} {on oc : Nat} (hr : Rdr (BaC hI) (op, on, oc) LN o) {d : Int} {nl : Bool} {xs : List IV} {sp : Option PA} {n cap : Nat} (hx : Rdr (BaC hI) (sp, n, cap) LT xs) {b : Bool} {x : IV} {k : Int} {G : PA → Prop} (hG : Star [BaC hI] h G) :
    HT Try.prog fn_laws_FnExactBDescend [.agg [.sl op on oc, .int .i64 d, .bool nl], .c (.sl sp n cap), .c (.bool b), .agg [.int .i64 x.1, .int .i64 x.2], .c (.int .i64 k)] false [.c .bool] h fun r h' => ∃ post, (r = (true, ()) ∧ post = [BaC hI]) ∧ St h G post h' := by
  apply hc_laws_FnExactBDescend
  unfold M_laws_FnExactBDescend
  have hno : on = o.length := hr.1
  have hn : n = xs.length := hx.1
  refine st_alloc (St.start hG) fun n0 _ S => ?_
  refine st_alloc S fun n1 _ S => ?_
  refine w_mid' none (fun (y : SV [.c .bool]) h' => (y = (true, ()) ∨ y = (false, ()) ∧ on ≤ 2147483647 ∧ n ≤ 2147483647) ∧ St h G [Ow (n0, 0) (List.map Cell.val [.sl op on oc, .int .i64 d, .bool nl]) 0, Ow (n1, 0) (LT.cells x) 0, BaC hI] h') ?_ ?_
  · refine ld_sl S op on oc rfl (ld_int S rfl (ld_bool S rfl ?_))
    refine st_callT S [] (fun G hG => c_zzFits1 hG) ?_
    rintro _ _ _ ⟨rfl, rfl⟩ S
    dsimp only [List.cons_append, List.nil_append] at S
    by_cases hbo : on > 2147483647
    · exact w_true (by rw [decide_eq_false (by (first | omega | ((try dsimp only [Sh.T, Sh1.T]); omega)))]; rfl) (md_n rfl ⟨.inl rfl, S.only [.ow (n0, 0), .ow (n1, 0), .ck (BaC hI)]⟩)
    refine w_false (by rw [decide_eq_true (by (first | omega | ((try dsimp only [Sh.T, Sh1.T]); omega)))]; rfl) ?_
    by_cases hb0 : n > 2147483647
    · exact md_n (x := (true, ())) (by rw [decide_eq_true (by omega)]; rfl) ⟨.inl rfl, S.only [.ow (n0, 0), .ow (n1, 0), .ck (BaC hI)]⟩
    exact md_n (x := (false, ())) (by rw [decide_eq_false (by omega)]; rfl) ⟨.inr ⟨rfl, by omega, by omega⟩, S.only [.ow (n0, 0), .ow (n1, 0), .ck (BaC hI)]⟩
  rintro _ _ ⟨rfl | ⟨rfl, hz0, hz1⟩, S⟩
  · exact w_true rfl (rt_1 rfl ⟨_, ⟨rfl, rfl⟩, S.only [.ck (BaC hI)]⟩)
  refine w_false rfl ?_
  refine w_mid' none (fun (y : SV [.c .bool]) h' => y = (true, ()) ∧ St h G [BaC hI] h') ?_ (fun _ _ ⟨e, S⟩ => by subst e; exact rt_1 rfl ⟨_, ⟨rfl, rfl⟩, S⟩)
  refine st_callT S [] (fun G hG => c_exMake hG) ?_
  rintro _ _ _ ⟨rfl, rfl⟩ S
  dsimp only [List.cons_append, List.nil_append] at S
  refine st_callT S [] (fun G hG => c_exItems hG) ?_
  rintro _ _ _ ⟨ne, rfl, rfl⟩ S
  dsimp only [List.cons_append, List.nil_append] at S
  skip
  refine st_callT S [.ck (Ow (ne, 0) (LT.flat exI) 0)] (fun G hG => c_bDescend (o := []) (b := false) (x := (4, 0)) (k := 2) Rdr.nil (by decide) (by decide) (Rdr.ow (xs := exI) rfl) (by decide) hG) ?_
  rintro _ _ _ ⟨rfl, rfl⟩ S
  dsimp only [List.cons_append, List.nil_append] at S
  refine w_true rfl (ld_int S rfl ?_)
  refine w_callT c_Fits ?_
  rintro _ _ ⟨rfl, rfl⟩
  by_cases hf : d = 0 ∨ 2 ≤ d ∧ d ≤ 128
  · refine w_false (by rw [decide_eq_true hf]; rfl) ?_
    refine ld_sl S op on oc rfl (ld_int S rfl (ld_bool S rfl ?_))
    refine ld_int S rfl (ld_int S rfl ?_)
    refine st_callT S [.ck (BaC hI)] (fun G hG => c_bDescend (x := x) hr (by omega) (by omega) hx (by omega) hG) ?_
    rintro _ _ _ ⟨rfl, rfl⟩ S
    dsimp only [List.cons_append, List.nil_append] at S
    exact md_n rfl ⟨rfl, S.only [.ck (BaC hI)]⟩
  · exact w_true (by rw [decide_eq_false hf]; rfl) (md_n rfl ⟨rfl, S.only [.ck (BaC hI)]⟩)
set_option maxHeartbeats 1000000 in
theorem c_FnExactBDescendHint {hI : H} {o : List Int} {op : Option PA} {on oc : Nat} (hr : Rdr (BaC hI) (op, on, oc) LN o) {d : Int} {nl : Bool} {xs : List IV} {sp : Option PA} {n cap : Nat} (hx : Rdr (BaC hI) (sp, n, cap) LT xs) {b : Bool} {x : IV} {k : Int} {G : PA → Prop} (hG : Star [BaC hI] h G) :
    HT Try.prog fn_laws_FnExactBDescendHint [.agg [.sl op on oc, .int .i64 d, .bool nl], .c (.sl sp n cap), .c (.bool b), .agg [.int .i64 x.1, .int .i64 x.2], .c (.int .i64 k)] false [.c .bool] h fun r h' => ∃ post, (r = (true, ()) ∧ post = [BaC hI]) ∧ St h G post h' := by
  apply hc_laws_FnExactBDescendHint
  unfold M_laws_FnExactBDescendHint
  have hno : on = o.length := hr.1
  have hn : n = xs.length := hx.1
  refine st_alloc (St.start hG) fun n0 _ S => ?_
  refine st_alloc S fun n1 _ S => ?_
  refine w_mid' none (fun (y : SV [.c .bool]) h' => (y = (true, ()) ∨ y = (false, ()) ∧ on ≤ 2147483647 ∧ n ≤ 2147483647) ∧ St h G [Ow (n0, 0) (List.map Cell.val [.sl op on oc, .int .i64 d, .bool nl]) 0, Ow (n1, 0) (LT.cells x) 0, BaC hI] h') ?_ ?_
  · refine ld_sl S op on oc rfl (ld_int S rfl (ld_bool S rfl ?_))
    refine st_callT S [] (fun G hG => c_zzFits1 hG) ?_
    rintro _ _ _ ⟨rfl, rfl⟩ S
    dsimp only [List.cons_append, List.nil_append] at S
    by_cases hbo : on > 2147483647
    · exact w_true (by rw [decide_eq_false (by (first | omega | ((try dsimp only [Sh.T, Sh1.T]); omega)))]; rfl) (md_n rfl ⟨.inl rfl, S.only [.ow (n0, 0), .ow (n1, 0), .ck (BaC hI)]⟩)
    refine w_false (by rw [decide_eq_true (by (first | omega | ((try dsimp only [Sh.T, Sh1.T]); omega)))]; rfl) ?_
    by_cases hb0 : n > 2147483647
    · exact md_n (x := (true, ())) (by rw [decide_eq_true (by omega)]; rfl) ⟨.inl rfl, S.only [.ow (n0, 0), .ow (n1, 0), .ck (BaC hI)]⟩
    exact md_n (x := (false, ())) (by rw [decide_eq_false (by omega)]; rfl) ⟨.inr ⟨rfl, by omega, by omega⟩, S.only [.ow (n0, 0), .ow (n1, 0), .ck (BaC hI)]⟩
  rintro _ _ ⟨rfl | ⟨rfl, hz0, hz1⟩, S⟩
  · exact w_true rfl (rt_1 rfl ⟨_, ⟨rfl, rfl⟩, S.only [.ck (BaC hI)]⟩)
  refine w_false rfl ?_
  refine w_mid' none (fun (y : SV [.c .bool]) h' => y = (true, ()) ∧ St h G [BaC hI] h') ?_ (fun _ _ ⟨e, S⟩ => by subst e; exact rt_1 rfl ⟨_, ⟨rfl, rfl⟩, S⟩)
  refine st_callT S [] (fun G hG => c_exMake hG) ?_
  rintro _ _ _ ⟨rfl, rfl⟩ S
  dsimp only [List.cons_append, List.nil_append] at S
  refine st_callT S [] (fun G hG => c_exItems hG) ?_
  rintro _ _ _ ⟨ne, rfl, rfl⟩ S
  dsimp only [List.cons_append, List.nil_append] at S
  skip
  refine st_callT S [.ck (Ow (ne, 0) (LT.flat exI) 0)] (fun G hG => c_bDescendHint (o := []) (b := false) (x := (4, 0)) (k := 2) Rdr.nil (by decide) (by decide) (Rdr.ow (xs := exI) rfl) (by decide) hG) ?_
  rintro _ _ _ ⟨rfl, rfl⟩ S
  dsimp only [List.cons_append, List.nil_append] at S
  refine w_true rfl (ld_int S rfl ?_)
  refine w_callT c_Fits ?_
  rintro _ _ ⟨rfl, rfl⟩
  by_cases hf : d = 0 ∨ 2 ≤ d ∧ d ≤ 128
  · refine w_false (by rw [decide_eq_true hf]; rfl) ?_
    refine ld_sl S op on oc rfl (ld_int S rfl (ld_bool S rfl ?_))
    refine ld_int S rfl (ld_int S rfl ?_)
    refine st_callT S [.ck (BaC hI)] (fun G hG => c_bDescendHint (x := x) hr (by omega) (by omega) hx (by omega) hG) ?_
    rintro _ _ _ ⟨rfl, rfl⟩ S
    dsimp only [List.cons_append, List.nil_append] at S
    exact md_n rfl ⟨rfl, S.only [.ck (BaC hI)]⟩
  · exact w_true (by rw [decide_eq_false hf]; rfl) (md_n rfl ⟨rfl, S.only [.ck (BaC hI)]⟩)
theorem c_exPlaces {G : PA → Prop} (hG : Star [] h G) : HT Try.prog fn_laws_exPlaces [] false [.c .sl] h fun r h' => ∃ post, (∃ n : Nat, r = ((some (n, 0), 5, 5), ()) ∧ post = [Ow (n, 0) (LN.flat [0, 2, 5, -1, 100]) 0]) ∧ St h G post h' := by
  apply hc_laws_exPlaces
  unfold M_laws_exPlaces
  refine st_alloc (St.start hG) fun n _ S => ?_
  exact rt_1 rfl ⟨_, ⟨n, rfl, rfl⟩, S⟩
set_option maxHeartbeats 1000000 in
theorem c_FnExactBGetAt {hI : H} {o : List Int} {op : Option PA} {on oc : Nat} (hr : Rdr (BaC hI) (op, on, oc) LN o) {d : Int} {nl : Bool} {xs : List IV} {sp : Option PA} {n cap : Nat} (hx : Rdr (BaC hI) (sp, n, cap) LT xs) {ks : List Int} {kp : Option PA} {kn kc : Nat} (hk : Rdr (BaC hI) (kp, kn, kc) LN ks) {G : PA → Prop} (hG : Star [BaC hI] h G) :
    HT Try.prog fn_laws_FnExactBGetAt [.agg [.sl op on oc, .int .i64 d, .bool nl], .c (.sl sp n cap), .c (.sl kp kn kc)] false [.c .bool] h fun r h' => ∃ post, (r = (true, ()) ∧ post = [BaC hI]) ∧ St h G post h' := by
  apply hc_laws_FnExactBGetAt
  unfold M_laws_FnExactBGetAt
  have hno : on = o.length := hr.1
  have hn : n = xs.length := hx.1
  refine st_alloc (St.start hG) fun n0 _ S => ?_
  skip
  refine w_mid' none (fun (y : SV [.c .bool]) h' => (y = (true, ()) ∨ y = (false, ()) ∧ on ≤ 2147483647 ∧ n ≤ 2147483647 ∧ kn ≤ 2147483647) ∧ St h G [Ow (n0, 0) (List.map Cell.val [.sl op on oc, .int .i64 d, .bool nl]) 0, BaC hI] h') ?_ ?_
  · refine ld_sl S op on oc rfl (ld_int S rfl (ld_bool S rfl ?_))
    refine st_callT S [] (fun G hG => c_zzFits1 hG) ?_
    rintro _ _ _ ⟨rfl, rfl⟩ S
    dsimp only [List.cons_append, List.nil_append] at S
    by_cases hbo : on > 2147483647
    · exact w_true (by rw [decide_eq_false (by (first | omega | ((try dsimp only [Sh.T, Sh1.T]); omega)))]; rfl) (md_n rfl ⟨.inl rfl, S.only [.ow (n0, 0), .ck (BaC hI)]⟩)
    refine w_false (by rw [decide_eq_true (by (first | omega | ((try dsimp only [Sh.T, Sh1.T]); omega)))]; rfl) ?_
    by_cases hb0 : n > 2147483647
    · exact w_true (decide_eq_true (by omega)) (md_n rfl ⟨.inl rfl, S.only [.ow (n0, 0), .ck (BaC hI)]⟩)
    refine w_false (decide_eq_false (by omega)) ?_
    by_cases hb1 : kn > 2147483647
    · exact md_n (x := (true, ())) (by rw [decide_eq_true (by omega)]; rfl) ⟨.inl rfl, S.only [.ow (n0, 0), .ck (BaC hI)]⟩
    exact md_n (x := (false, ())) (by rw [decide_eq_false (by omega)]; rfl) ⟨.inr ⟨rfl, by omega, by omega, by omega⟩, S.only [.ow (n0, 0), .ck (BaC hI)]⟩
  rintro _ _ ⟨rfl | ⟨rfl, hz0, hz1, hz2⟩, S⟩
  · exact w_true rfl (rt_1 rfl ⟨_, ⟨rfl, rfl⟩, S.only [.ck (BaC hI)]⟩)
  refine w_false rfl ?_
  refine w_mid' none (fun (y : SV [.c .bool]) h' => y = (true, ()) ∧ St h G [BaC hI] h') ?_ (fun _ _ ⟨e, S⟩ => by subst e; exact rt_1 rfl ⟨_, ⟨rfl, rfl⟩, S⟩)
  refine st_callT S [] (fun G hG => c_exMake hG) ?_
  rintro _ _ _ ⟨rfl, rfl⟩ S
  dsimp only [List.cons_append, List.nil_append] at S
  refine st_callT S [] (fun G hG => c_exItems hG) ?_
  rintro _ _ _ ⟨ne, rfl, rfl⟩ S
  dsimp only [List.cons_append, List.nil_append] at S
  refine st_callT S [] (fun G hG => c_exPlaces hG) ?_; rintro _ _ _ ⟨nk, rfl, rfl⟩ S; dsimp only [List.cons_append, List.nil_append] at S; have S := S.ats [.ow (ne, 0), .ow (nk, 0)]
  refine st_callT (l := StC [Ow (ne, 0) (LT.flat exI) 0, Ow (nk, 0) (LN.flat [0, 2, 5, -1, 100]) 0] :: _) (St.st_in (m := [_, _]) S) [.ck (StC [Ow (ne, 0) (LT.flat exI) 0, Ow (nk, 0) (LN.flat [0, 2, 5, -1, 100]) 0])] (fun G hG => c_bGetAt (o := []) Rdr.nil (by decide) (by decide) (Rdr.st (i := 0) rfl (Rdr.ow (xs := exI) rfl)) (by decide) (Rdr.st (i := 1) rfl (Rdr.ow (xs := [0, 2, 5, -1, 100]) rfl)) (by decide) hG) ?_
  rintro _ _ _ ⟨rfl, rfl⟩ S
  dsimp only [List.cons_append, List.nil_append] at S
  refine w_true rfl (ld_int S rfl ?_)
  refine w_callT c_Fits ?_
  rintro _ _ ⟨rfl, rfl⟩
  by_cases hf : d = 0 ∨ 2 ≤ d ∧ d ≤ 128
  · refine w_false (by rw [decide_eq_true hf]; rfl) ?_
    refine ld_sl S op on oc rfl (ld_int S rfl (ld_bool S rfl ?_))
    skip
    refine st_callT S [.ck (BaC hI)] (fun G hG => c_bGetAt hr (by omega) (by omega) hx (by omega) hk (by have := hk.1; dsimp only at this; omega) hG) ?_
    rintro _ _ _ ⟨rfl, rfl⟩ S
    dsimp only [List.cons_append, List.nil_append] at S
    exact md_n rfl ⟨rfl, S.only [.ck (BaC hI)]⟩
  · exact w_true (by rw [decide_eq_false hf]; rfl) (md_n rfl ⟨rfl, S.only [.ck (BaC hI)]⟩)
end
end Go.Proofs.Ytlhbdmjeomffhaa
