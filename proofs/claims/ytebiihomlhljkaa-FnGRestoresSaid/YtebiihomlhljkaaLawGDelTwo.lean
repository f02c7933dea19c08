/-
  The law FnGDeleteTwo. Conditions: none.
-/
import Derived.Test.YtebiihomlhljkaaLawGDels
import Derived.Test.YtebiihomlhljkaaYbl
set_option linter.unusedVariables false
set_option linter.unusedSimpArgs false
set_option linter.unusedSectionVars false
set_option maxRecDepth 100000
namespace Go.Proofs.Ytebiihomlhljkaa
open Go
def M_slices_IndexFunc_impl_Item_impl_Item (a0p : Option PA) (a0l : Nat) (a0c : Nat) (a1 : Value) : M :=
  .bind (some 0) (.loop [.c (.int .i64)] [.c (.int .i64 (0))] fun y0 =>
      .ite (decide (y0.fst < (↑a0l : Int)))
      (.nonnil (a0p) fun p1 =>
        .guard (((0 : Int) ≤ y0.fst) ∧ ((y0.fst : Int) < (↑a0l : Int))) <|
        .load (p1.fst, p1.snd + mulN (Int.toNat y0.fst) 2) (.int .i64) fun i2 =>
        .load (p1.fst, p1.snd + mulN (Int.toNat y0.fst) 2 + 1) (.int .i64) fun i3 =>
        .callv (a1) [.agg [.int .i64 (i2), .int .i64 (i3)]] false [.c (.bool)] fun r4 =>
        .ite (r4.fst)
        (.done .ret [.c (.int .i64 (y0.fst))])
        (.guard (InK IntKind.i64 (y0.fst + 1)) <|
          .done .normal [.c (.int .i64 (y0.fst + 1))]))
      (.done (.exit 0) [])) [] fun x5 =>
  .done .ret [.c (.int .i64 (-1))]
theorem den_slices_IndexFunc_impl_Item_impl_Item (a0p : Option PA) (a0l : Nat) (a0c : Nat) (a1 : Value) : denFn Try.prog Try.f38 [.c (.sl a0p a0l a0c), .c (.raw a1)] = M_slices_IndexFunc_impl_Item_impl_Item a0p a0l a0c a1 := by kernel_rfl
theorem hc_slices_IndexFunc_impl_Item_impl_Item (a0p : Option PA) (a0l : Nat) (a0c : Nat) (a1 : Value) {h : H} {R : Value → H → Prop} (hw : wp Try.prog (M_slices_IndexFunc_impl_Item_impl_Item a0p a0l a0c a1) (Ret R) h) : HC Try.prog fn_slices_IndexFunc_impl_Item_impl_Item (List.map AV.val [.c (.sl a0p a0l a0c), .c (.raw a1)]).toArray h R :=
  den_calls hmix Try.func38 (of_decide_eq_true rfl) (by rw [den_slices_IndexFunc_impl_Item_impl_Item]; exact hw)
def M_laws_FnGDeleteTwo_1 (a00 : Int) (a01 : Int) (f0 : PA) (f1 : PA) : M :=
  .alloc ty_impl_Item [.int .i64 (a00), .int .i64 (a01)] fun n0 =>
  .bind none (.load (f0.fst, f0.snd) (.sl) fun s1 =>
    .load f1 (.int .i64) fun i2 =>
    .load (f1.fst, f1.snd + 1) (.int .i64) fun i3 =>
    .load (n0, 0) (.int .i64) fun i4 =>
    .load (n0, 1) (.int .i64) fun i5 =>
    .call fn_spec_Before [.c (.sl (s1.fst) (s1.snd.fst) (s1.snd.snd)), .agg [.int .i64 (i2), .int .i64 (i3)], .agg [.int .i64 (i4), .int .i64 (i5)]] false [.c (.bool)] fun r6 =>
    .ite (!r6.fst)
    (.load (f0.fst, f0.snd) (.sl) fun s7 =>
      .load (n0, 0) (.int .i64) fun i8 =>
      .load (n0, 1) (.int .i64) fun i9 =>
      .load f1 (.int .i64) fun i10 =>
      .load (f1.fst, f1.snd + 1) (.int .i64) fun i11 =>
      .call fn_spec_Before [.c (.sl (s7.fst) (s7.snd.fst) (s7.snd.snd)), .agg [.int .i64 (i8), .int .i64 (i9)], .agg [.int .i64 (i10), .int .i64 (i11)]] false [.c (.bool)] fun r12 =>
      .done .normal [.c (.bool (!r12.fst))])
    (.done .normal [.c (.ff)])) [.c (.bool)] fun x13 =>
  .done .ret [.c (.bool (x13.fst))]
theorem den_laws_FnGDeleteTwo_1 (a00 : Int) (a01 : Int) (f0 : PA) (f1 : PA) : denFn Try.prog Try.f39 [.agg [.int .i64 a00, .int .i64 a01], .c (.addr f0), .c (.addr f1)] = M_laws_FnGDeleteTwo_1 a00 a01 f0 f1 := by kernel_rfl
theorem hc_laws_FnGDeleteTwo_1 (a00 : Int) (a01 : Int) (f0 : PA) (f1 : PA) {h : H} {R : Value → H → Prop} (hw : wp Try.prog (M_laws_FnGDeleteTwo_1 a00 a01 f0 f1) (Ret R) h) : HC Try.prog fn_laws_FnGDeleteTwo_1 (List.map AV.val [.agg [.int .i64 a00, .int .i64 a01], .c (.addr f0), .c (.addr f1)]).toArray h R :=
  den_calls hmix Try.func39 (of_decide_eq_true rfl) (by rw [den_laws_FnGDeleteTwo_1]; exact hw)
def M_impl_GDelete (a00p : Option PA) (a00l : Nat) (a00c : Nat) (a01 : Int) (a02 : Bool) (a1p : Option PA) (a1l : Nat) (a1c : Nat) (a2p : Option PA) (a2l : Nat) (a2c : Nat) : M :=
  .alloc ty_impl_Make [.sl (a00p) (a00l) (a00c), .int .i64 (a01), .bool (a02)] fun n0 =>
  .load (n0, 0) (.sl) fun s1 =>
  .load (n0, 1) (.int .i64) fun i2 =>
  .load (n0, 2) (.bool) fun b3 =>
  .call fn_impl_grow [.agg [.sl (s1.fst) (s1.snd.fst) (s1.snd.snd), .int .i64 (i2), .bool (b3)], .c (.sl (a1p) (a1l) (a1c))] false [.c (.ptr)] fun r4 =>
  .bind (some 0) (.loop [.c (.int .i64), .c (.sl)] [.c (.int .i64 (0)), .c (.sl none (0) (0))] fun y5 =>
      .ite (decide (y5.fst < (↑a2l : Int)))
      (.nonnil (a2p) fun p6 =>
        .guard (((0 : Int) ≤ y5.fst) ∧ ((y5.fst : Int) < (↑a2l : Int))) <|
        .load (p6.fst, p6.snd + mulN (Int.toNat y5.fst) 2) (.int .i64) fun i7 =>
        .load (p6.fst, p6.snd + mulN (Int.toNat y5.fst) 2 + 1) (.int .i64) fun i8 =>
        .alloc ty_impl_Item [.int .i64 (0), .int .i64 (0)] fun n9 =>
        .store (n9, 0) (.int .i64 (i7)) <|
        .store (n9, 1) (.int .i64 (i8)) <|
        .load (n9, 0) (.int .i64) fun i10 =>
        .load (n9, 1) (.int .i64) fun i11 =>
        .call fn_tg_Delete [.c (.ptr (r4.fst)), .agg [.int .i64 (i10), .int .i64 (i11)]] true [.agg [.int .i64, .int .i64], .c (.bool)] fun r12 =>
        .call fn_impl_found [.agg [.int .i64 (r12.fst.fst), .int .i64 (r12.fst.snd.fst)], .c (.bool (r12.snd.fst))] false [.agg [.int .i64, .int .i64, .bool]] fun r13 =>
        .alloc ty_impl_Found [.int .i64 (r13.fst.fst), .int .i64 (r13.fst.snd.fst), .bool (r13.fst.snd.snd.fst)] fun n14 =>
        .append ty_impl_Found 3 24 [.int .i64 (0), .int .i64 (0), .ff] ((y5.snd.fst.fst), y5.snd.fst.snd.fst, y5.snd.fst.snd.snd) ((some (n14, 0)), 1, 1) fun s15 =>
        .guard (InK IntKind.i64 (y5.fst + 1)) <|
        .done .normal [.c (.int .i64 (y5.fst + 1)), .c (.sl (s15.fst) (s15.snd.fst) (s15.snd.snd))])
      (.done (.exit 0) [.c (.sl (y5.snd.fst.fst) (y5.snd.fst.snd.fst) (y5.snd.fst.snd.snd))])) [.c (.sl)] fun x16 =>
  .call fn_tg_Items [.c (.ptr (r4.fst))] false [.c (.sl)] fun r17 =>
  .done .ret [.c (.sl (x16.fst.fst) (x16.fst.snd.fst) (x16.fst.snd.snd)), .c (.sl (r17.fst.fst) (r17.fst.snd.fst) (r17.fst.snd.snd))]
theorem den_impl_GDelete (a00p : Option PA) (a00l : Nat) (a00c : Nat) (a01 : Int) (a02 : Bool) (a1p : Option PA) (a1l : Nat) (a1c : Nat) (a2p : Option PA) (a2l : Nat) (a2c : Nat) : denFn Try.prog Try.f15 [.agg [.sl a00p a00l a00c, .int .i64 a01, .bool a02], .c (.sl a1p a1l a1c), .c (.sl a2p a2l a2c)] = M_impl_GDelete a00p a00l a00c a01 a02 a1p a1l a1c a2p a2l a2c := by kernel_rfl
theorem hc_impl_GDelete (a00p : Option PA) (a00l : Nat) (a00c : Nat) (a01 : Int) (a02 : Bool) (a1p : Option PA) (a1l : Nat) (a1c : Nat) (a2p : Option PA) (a2l : Nat) (a2c : Nat) {h : H} {R : Value → H → Prop} (hw : wp Try.prog (M_impl_GDelete a00p a00l a00c a01 a02 a1p a1l a1c a2p a2l a2c) (Ret R) h) : HC Try.prog fn_impl_GDelete (List.map AV.val [.agg [.sl a00p a00l a00c, .int .i64 a01, .bool a02], .c (.sl a1p a1l a1c), .c (.sl a2p a2l a2c)]).toArray h R :=
  den_calls hmix Try.func15 (of_decide_eq_true rfl) (by rw [den_impl_GDelete]; exact hw)
def M_impl_GDeleteAt (a00p : Option PA) (a00l : Nat) (a00c : Nat) (a01 : Int) (a02 : Bool) (a1p : Option PA) (a1l : Nat) (a1c : Nat) (a2p : Option PA) (a2l : Nat) (a2c : Nat) : M :=
  .alloc ty_impl_Make [.sl (a00p) (a00l) (a00c), .int .i64 (a01), .bool (a02)] fun n0 =>
  .load (n0, 0) (.sl) fun s1 =>
  .load (n0, 1) (.int .i64) fun i2 =>
  .load (n0, 2) (.bool) fun b3 =>
  .call fn_impl_grow [.agg [.sl (s1.fst) (s1.snd.fst) (s1.snd.snd), .int .i64 (i2), .bool (b3)], .c (.sl (a1p) (a1l) (a1c))] false [.c (.ptr)] fun r4 =>
  .bind (some 0) (.loop [.c (.int .i64), .c (.sl)] [.c (.int .i64 (0)), .c (.sl none (0) (0))] fun y5 =>
      .ite (decide (y5.fst < (↑a2l : Int)))
      (.nonnil (a2p) fun p6 =>
        .guard (((0 : Int) ≤ y5.fst) ∧ ((y5.fst : Int) < (↑a2l : Int))) <|
        .load (p6.fst, p6.snd + Int.toNat y5.fst) (.int .i64) fun i7 =>
        .call fn_tg_DeleteAt [.c (.ptr (r4.fst)), .c (.int .i64 (i7))] true [.agg [.int .i64, .int .i64], .c (.bool)] fun r8 =>
        .call fn_impl_found [.agg [.int .i64 (r8.fst.fst), .int .i64 (r8.fst.snd.fst)], .c (.bool (r8.snd.fst))] false [.agg [.int .i64, .int .i64, .bool]] fun r9 =>
        .alloc ty_impl_Found [.int .i64 (r9.fst.fst), .int .i64 (r9.fst.snd.fst), .bool (r9.fst.snd.snd.fst)] fun n10 =>
        .append ty_impl_Found 3 24 [.int .i64 (0), .int .i64 (0), .ff] ((y5.snd.fst.fst), y5.snd.fst.snd.fst, y5.snd.fst.snd.snd) ((some (n10, 0)), 1, 1) fun s11 =>
        .guard (InK IntKind.i64 (y5.fst + 1)) <|
        .done .normal [.c (.int .i64 (y5.fst + 1)), .c (.sl (s11.fst) (s11.snd.fst) (s11.snd.snd))])
      (.done (.exit 0) [.c (.sl (y5.snd.fst.fst) (y5.snd.fst.snd.fst) (y5.snd.fst.snd.snd))])) [.c (.sl)] fun x12 =>
  .call fn_tg_Items [.c (.ptr (r4.fst))] false [.c (.sl)] fun r13 =>
  .done .ret [.c (.sl (x12.fst.fst) (x12.fst.snd.fst) (x12.fst.snd.snd)), .c (.sl (r13.fst.fst) (r13.fst.snd.fst) (r13.fst.snd.snd))]
theorem den_impl_GDeleteAt (a00p : Option PA) (a00l : Nat) (a00c : Nat) (a01 : Int) (a02 : Bool) (a1p : Option PA) (a1l : Nat) (a1c : Nat) (a2p : Option PA) (a2l : Nat) (a2c : Nat) : denFn Try.prog Try.f41 [.agg [.sl a00p a00l a00c, .int .i64 a01, .bool a02], .c (.sl a1p a1l a1c), .c (.sl a2p a2l a2c)] = M_impl_GDeleteAt a00p a00l a00c a01 a02 a1p a1l a1c a2p a2l a2c := by kernel_rfl
theorem hc_impl_GDeleteAt (a00p : Option PA) (a00l : Nat) (a00c : Nat) (a01 : Int) (a02 : Bool) (a1p : Option PA) (a1l : Nat) (a1c : Nat) (a2p : Option PA) (a2l : Nat) (a2c : Nat) {h : H} {R : Value → H → Prop} (hw : wp Try.prog (M_impl_GDeleteAt a00p a00l a00c a01 a02 a1p a1l a1c a2p a2l a2c) (Ret R) h) : HC Try.prog fn_impl_GDeleteAt (List.map AV.val [.agg [.sl a00p a00l a00c, .int .i64 a01, .bool a02], .c (.sl a1p a1l a1c), .c (.sl a2p a2l a2c)]).toArray h R :=
  den_calls hmix Try.func41 (of_decide_eq_true rfl) (by rw [den_impl_GDeleteAt]; exact hw)
def M_laws_FnGDeleteTwo (a00p : Option PA) (a00l : Nat) (a00c : Nat) (a01 : Int) (a02 : Bool) (a1p : Option PA) (a1l : Nat) (a1c : Nat) (a20 : Int) (a21 : Int) : M :=
  .alloc ty_impl_Make [.sl (a00p) (a00l) (a00c), .int .i64 (a01), .bool (a02)] fun n0 =>
  .alloc ty_impl_Item [.int .i64 (a20), .int .i64 (a21)] fun n1 =>
  .bind none (.load (n0, 0) (.sl) fun s2 =>
    .load (n0, 1) (.int .i64) fun i3 =>
    .load (n0, 2) (.bool) fun b4 =>
    .call fn_laws_zzFits1 [.agg [.sl (s2.fst) (s2.snd.fst) (s2.snd.snd), .int .i64 (i3), .bool (b4)]] false [.c (.bool)] fun r5 =>
    .ite (!r5.fst)
    (.done .normal [.c (.tt)])
    (.done .normal [.c (.bool (decide ((↑a1l : Int) > 2147483647)))])) [.c (.bool)] fun x6 =>
  .ite (x6.fst)
  (.done .ret [.c (.tt)])
  (.load (n0, 0) (.sl) fun s7 =>
    .load (n0, 1) (.int .i64) fun i8 =>
    .load (n0, 2) (.bool) fun b9 =>
    .call fn_laws_fits [.agg [.sl (s7.fst) (s7.snd.fst) (s7.snd.snd), .int .i64 (i8), .bool (b9)]] false [.c (.bool)] fun r10 =>
    .ite (!r10.fst)
    (.call fn_laws_alive [] false [.c (.bool)] fun r11 =>
      .done .ret [.c (.bool (r11.fst))])
    (.load (n0, 0) (.sl) fun s12 =>
      .load (n0, 1) (.int .i64) fun i13 =>
      .load (n0, 2) (.bool) fun b14 =>
      .call fn_impl_GItems [.agg [.sl (s12.fst) (s12.snd.fst) (s12.snd.snd), .int .i64 (i13), .bool (b14)], .c (.sl (a1p) (a1l) (a1c))] false [.c (.sl)] fun r15 =>
      .call fn_slices_IndexFunc_impl_Item_impl_Item [.c (.sl (r15.fst.fst) (r15.fst.snd.fst) (r15.fst.snd.snd)), .c (.raw (Value.func (Fn.func fn_laws_FnGDeleteTwo_1) (List.map AV.val []).toArray (List.map AV.val [AV.c (Cell.addr (n0, 0)), AV.c (Cell.addr (n1, 0))]).toArray))] false [.c (.int .i64)] fun r16 =>
      .load (n0, 0) (.sl) fun s17 =>
      .load (n0, 1) (.int .i64) fun i18 =>
      .load (n0, 2) (.bool) fun b19 =>
      .load (n1, 0) (.int .i64) fun i20 =>
      .load (n1, 1) (.int .i64) fun i21 =>
      .alloc ty_impl_Item [.int .i64 (i20), .int .i64 (i21)] fun n22 =>
      .call fn_impl_GDelete [.agg [.sl (s17.fst) (s17.snd.fst) (s17.snd.snd), .int .i64 (i18), .bool (b19)], .c (.sl (a1p) (a1l) (a1c)), .c (.sl (some (n22, 0)) (1) (1))] true [.c (.sl), .c (.sl)] fun r23 =>
      .load (n0, 0) (.sl) fun s24 =>
      .load (n0, 1) (.int .i64) fun i25 =>
      .load (n0, 2) (.bool) fun b26 =>
      .alloc ty_int [.int .i64 (r16.fst)] fun n27 =>
      .call fn_impl_GDeleteAt [.agg [.sl (s24.fst) (s24.snd.fst) (s24.snd.snd), .int .i64 (i25), .bool (b26)], .c (.sl (a1p) (a1l) (a1c)), .c (.sl (some (n27, 0)) (1) (1))] true [.c (.sl), .c (.sl)] fun r28 =>
      .bind none (.call fn_slices_Equal_impl_Found_impl_Found [.c (.sl (r23.fst.fst) (r23.fst.snd.fst) (r23.fst.snd.snd)), .c (.sl (r28.fst.fst) (r28.fst.snd.fst) (r28.fst.snd.snd))] false [.c (.bool)] fun r29 =>
        .ite (r29.fst)
        (.call fn_slices_Equal_impl_Item_impl_Item [.c (.sl (r23.snd.fst.fst) (r23.snd.fst.snd.fst) (r23.snd.fst.snd.snd)), .c (.sl (r28.snd.fst.fst) (r28.snd.fst.snd.fst) (r28.snd.fst.snd.snd))] false [.c (.bool)] fun r30 =>
          .ite (r30.fst)
          (.call fn_laws_alive [] false [.c (.bool)] fun r31 =>
            .done .normal [.c (.bool (r31.fst))])
          (.done .normal [.c (.ff)]))
        (.done .normal [.c (.ff)])) [.c (.bool)] fun x32 =>
      .done .ret [.c (.bool (x32.fst))]))
theorem den_laws_FnGDeleteTwo (a00p : Option PA) (a00l : Nat) (a00c : Nat) (a01 : Int) (a02 : Bool) (a1p : Option PA) (a1l : Nat) (a1c : Nat) (a20 : Int) (a21 : Int) : denFn Try.prog Try.f9 [.agg [.sl a00p a00l a00c, .int .i64 a01, .bool a02], .c (.sl a1p a1l a1c), .agg [.int .i64 a20, .int .i64 a21]] = M_laws_FnGDeleteTwo a00p a00l a00c a01 a02 a1p a1l a1c a20 a21 := by kernel_rfl
theorem hc_laws_FnGDeleteTwo (a00p : Option PA) (a00l : Nat) (a00c : Nat) (a01 : Int) (a02 : Bool) (a1p : Option PA) (a1l : Nat) (a1c : Nat) (a20 : Int) (a21 : Int) {h : H} {R : Value → H → Prop} (hw : wp Try.prog (M_laws_FnGDeleteTwo a00p a00l a00c a01 a02 a1p a1l a1c a20 a21) (Ret R) h) : HC Try.prog fn_laws_FnGDeleteTwo (List.map AV.val [.agg [.sl a00p a00l a00c, .int .i64 a01, .bool a02], .c (.sl a1p a1l a1c), .agg [.int .i64 a20, .int .i64 a21]]).toArray h R :=
  den_calls hmix Try.func9 (of_decide_eq_true rfl) (by rw [den_laws_FnGDeleteTwo]; exact hw)
def cutsR (l : List IV) (is : List Int) : List IV := is.foldl TG.cutK l
def cutsF : List IV → List Int → List (Option IV)
  | _, [] => []
  | l, i :: is => TG.atK l i :: cutsF (TG.cutK l i) is
theorem cutsR_snoc (l : List IV) (is : List Int) (i : Int) : cutsR l (is ++ [i]) = TG.cutK (cutsR l is) i := by simp [cutsR]
theorem cutsF_snoc : ∀ (l : List IV) (is : List Int) (i : Int), cutsF l (is ++ [i]) = cutsF l is ++ [TG.atK (cutsR l is) i]
  | l, [], b => rfl
  | l, a :: bs, b => by
    show TG.atK l a :: cutsF (TG.cutK l a) (bs ++ [b]) = _
    rw [cutsF_snoc]; rfl
theorem cutsF_len : ∀ (l : List IV) (bs : List Int), (cutsF l bs).length = bs.length
  | _, [] => rfl
  | l, b :: bs => by show (cutsF (TG.cutK l b) bs).length + 1 = _; rw [cutsF_len]; rfl
theorem cutsR_len (l : List IV) (bs : List Int) : (cutsR l bs).length ≤ l.length := by
  induction bs generalizing l with
  | nil => exact Nat.le_refl _
  | cons b bs ih => exact Nat.le_trans (ih (TG.cutK l b)) (cutK_len l b)
def eqv (o : List Int) (x y : IV) : Bool := !ltO o x y && !ltO o y x
theorem eqv_iff {o : List Int} {x y : IV} : eqv o x y = true ↔ ltO o x y = false ∧ ltO o y x = false := by simp [eqv]
theorem no_eqv {o : List Int} {l : List IV} (hs : Srt (ltO o) l) {x : IV} (h : ∀ y ∈ l, eqv o x y = false) : fnd (ltO o) l x = none := by
  cases hf : fnd (ltO o) l x with
  | none => rfl
  | some y =>
    obtain ⟨h1, h2, h3⟩ := fnd_some_lt hf
    have h4 := h y (List.mem_of_getElem? h2)
    have h5 : ltO o y x = false := by
      cases hq : ltO o y x with
      | false => rfl
      | true => have := (pos_spec (ordO o) hs x _ y h2).2 hq; omega
    rw [eqv_iff.2 ⟨h3, h5⟩] at h4
    cases h4
section
variable {h : H}
theorem c_IdxFunc {c K : Ck} {f : Value} {p : IV → Bool} (hcb : Cbk Try.prog f argI (fun _ => K) (fun _ x => p x) 1) {xs : List IV} {sp : Option PA} {n cap : Nat} (hx : Rdr c (sp, n, cap) LT xs) (hl : xs.length ≤ 4294967296) {G : PA → Prop} (hG : Star [c, K] h G) :
    HT Try.prog fn_slices_IndexFunc_impl_Item_impl_Item [.c (.sl sp n cap), .c (.raw f)] false [.c (.int .i64)] h fun r h' => ∃ post, ((∃ i : Int, r = (i, ()) ∧ (i = -1 ∧ (∀ y ∈ xs, p y = false) ∨ ∃ (j : Nat) (y : IV), i = j ∧ xs[j]? = some y ∧ p y = true)) ∧ post = [c, K]) ∧ St h G post h' := by
  apply hc_slices_IndexFunc_impl_Item_impl_Item
  unfold M_slices_IndexFunc_impl_Item_impl_Item
  have hn : n = xs.length := hx.1
  have S := St.start hG
  refine w_bnd (w_lp (fun r y h' => ∃ i : Nat, y = ((i : Int), ()) ∧ i + r = n ∧ (∀ y ∈ xs.take i, p y = false) ∧ St h G [c, K] h') n rfl ⟨0, rfl, by omega, by simp, S⟩ ?_)
  clear S
  rintro r _ _ ⟨i, rfl, hi, he, S⟩
  by_cases hlt : i < n
  · obtain ⟨q, hq, hro⟩ := hx.ptr (by omega)
    dsimp only at hq
    subst hq
    have hxi := List.getElem?_eq_getElem (show i < xs.length by omega)
    simp only [Int.toNat_natCast, toNat_succ, toNat_succ2, toNat_pred]
    refine w_true (lt_t (by (first | omega | ((try dsimp only [Sh.T, Sh1.T]); omega)))) ?_
    refine w_nonnil (w_guard ⟨by (first | omega | ((try dsimp only [Sh.T, Sh1.T]); omega)), by (first | omega | ((try dsimp only [Sh.T, Sh1.T]); omega))⟩ (w_item (S.rdr hro) hxi ?_))
    refine st_cb (acc := []) S.pull1 hcb xs[i] (by decide) rfl fun _ S => ?_
    have S := S.pull1
    by_cases hp : p xs[i] = true
    · exact w_true hp (ln_r (bd_r (rt_1 rfl ⟨_, ⟨⟨_, rfl, .inr ⟨i, _, rfl, hxi, hp⟩⟩, rfl⟩, S⟩)))
    · refine w_false (by simpa using hp) ?_
      refine w_guard (inK64 (by (first | omega | ((try dsimp only [Sh.T, Sh1.T]); omega))) (by (first | omega | ((try dsimp only [Sh.T, Sh1.T]); omega)))) ?_
      refine ln_n rfl (r - 1) ⟨i + 1, rfl, by omega, fun y hy => ?_, S⟩ (by omega)
      rw [take_snoc (by omega)] at hy
      rcases List.mem_append.1 hy with hy | hy
      · exact he y hy
      · rw [List.mem_singleton.1 hy]; simpa using hp
  · rw [List.take_of_length_le (by omega)] at he
    exact w_false (lt_f (by (first | omega | ((try dsimp only [Sh.T, Sh1.T]); omega)))) (ln_e (bd_e rfl (rt_1 rfl ⟨_, ⟨⟨_, rfl, .inl ⟨rfl, he⟩⟩, rfl⟩, S⟩)))
theorem cb_two {n0 n1 : Nat} {c : Ck} {o : List Int} {op : Option PA} {on oc : Nat} (hr : Rdr c (op, on, oc) LN o) (hl : o.length ≤ 2147483647) {d : Int} {nl : Bool} {x : IV} :
    Cbk Try.prog (Value.func (Fn.func fn_laws_FnGDeleteTwo_1) (List.map AV.val []).toArray (List.map AV.val [AV.c (Cell.addr (n0, 0)), AV.c (Cell.addr (n1, 0))]).toArray) argI (fun _ => StC [Ow (n0, 0) (List.map Cell.val [.sl op on oc, .int .i64 d, .bool nl]) 0, Ow (n1, 0) (LT.cells x) 0, c]) (fun _ y => eqv o x y) 1 := by
  intro h G acc y hlen hG
  refine ⟨by kernel_rfl, ?_⟩
  have e : ((List.map AV.val []).toArray ++ (List.map AV.val (argI y)).toArray ++ (List.map AV.val [AV.c (Cell.addr (n0, 0)), AV.c (Cell.addr (n1, 0))]).toArray : Array Value) = (List.map AV.val [.agg [.int .i64 y.1, .int .i64 y.2], .c (.addr (n0, 0)), .c (.addr (n1, 0))]).toArray := by simp [argI]
  rw [e]
  apply hc_laws_FnGDeleteTwo_1
  unfold M_laws_FnGDeleteTwo_1
  have S := St.st_out (St.start hG)
  dsimp only [List.cons_append, List.nil_append] at S
  refine st_alloc S fun n2 _ S => ?_
  refine w_mid' none (fun (z : SV [.c .bool]) h' => z = (eqv o x y, ()) ∧ St h G [Ow (n0, 0) (List.map Cell.val [.sl op on oc, .int .i64 d, .bool nl]) 0, Ow (n1, 0) (LT.cells x) 0, c] h') ?_ ?_
  · refine ld_sl S op on oc rfl (ld_int S rfl (ld_int S rfl (ld_int S rfl (ld_int S rfl ?_))))
    refine st_callT S [.ck c] (fun G hG => c_Before (a := x) (b := y) hr hl hG) ?_
    rintro _ _ _ ⟨rfl, rfl⟩ S
    dsimp only [List.cons_append, List.nil_append] at S
    cases hq : ltO o x y with
    | true => exact w_false rfl (md_n rfl ⟨by simp [eqv, hq], S.only [.ow (n0, 0), .ow (n1, 0), .ck c]⟩)
    | false =>
      refine w_true rfl ?_
      refine ld_sl S op on oc rfl (ld_int S rfl (ld_int S rfl (ld_int S rfl (ld_int S rfl ?_))))
      refine st_callT S [.ck c] (fun G hG => c_Before (a := y) (b := x) hr hl hG) ?_
      rintro _ _ _ ⟨rfl, rfl⟩ S
      dsimp only [List.cons_append, List.nil_append] at S
      exact md_n rfl ⟨by simp [eqv, hq], S.only [.ow (n0, 0), .ow (n1, 0), .ck c]⟩
  clear S
  rintro _ _ ⟨rfl, S⟩
  exact rt_1 rfl ⟨rfl, St.st_in (m := [_, _, _]) (l := []) S⟩
set_option maxHeartbeats 2000000 in
theorem c_GDeleteI {c : Ck} {o : List Int} {op : Option PA} {on oc : Nat} (hr : Rdr c (op, on, oc) LN o) (hl : o.length ≤ 2147483647) {d : Int} {nl : Bool} (hd : d ≤ 128) {xs : List IV} {sp : Option PA} {n cap : Nat} (hx : Rdr c (sp, n, cap) LT xs) (hxl : xs.length ≤ 2147483647) {ks : List IV} {kp : Option PA} {kn kc : Nat} (hk : Rdr c (kp, kn, kc) LT ks) (hkl : ks.length ≤ 2147483647) {G : PA → Prop} (hG : Star [c] h G) :
    HT Try.prog fn_impl_GDelete [.agg [.sl op on oc, .int .i64 d, .bool nl], .c (.sl sp n cap), .c (.sl kp kn kc)] true [.c .sl, .c .sl] h fun r h' => ∃ post, (∃ s t : SlT, r = (s, t, ()) ∧ OwnL LF s (delF o (treeO o xs) ks) ∧ OwnL LT t (delR o (treeO o xs) ks) ∧ post = [c, SlC s LF.sz (LF.flat (delF o (treeO o xs) ks)), SlC t LT.sz (LT.flat (delR o (treeO o xs) ks))]) ∧ St h G post h' := by
  apply hc_impl_GDelete
  unfold M_impl_GDelete
  have hn : kn = ks.length := hk.1
  have htl := treeO_len o xs
  refine st_alloc (St.start hG) fun n0 _ S => ?_
  (refine ld_sl S op on oc rfl (ld_int S rfl (ld_bool S rfl ?_)))
  (refine st_callT S [.ck c] (fun G hG => c_grow hr hl hd hx hxl hG) ?_; rintro _ _ _ ⟨m, f, rfl, rfl⟩ S; dsimp only [List.cons_append, List.nil_append] at S)
  have S := sl_nil LF S
  refine w_mid' (some 0) (fun (y : SV [.c .sl]) h' => ∃ s : SlT, y = (s, ()) ∧ OwnL LF s (delF o (treeO o xs) ks) ∧ St h G [c, OcC f o, TG.MpC (beF f) o 1 (TG.dgOf d) (m, 0) (delR o (treeO o xs) ks), SlC s LF.sz (LF.flat (delF o (treeO o xs) ks))] h') ?_ ?_
  · refine w_lp (fun r y h' => ∃ (i : Nat) (s : SlT), y = ((i : Int), s, ()) ∧ i + r = kn ∧ OwnL LF s (delF o (treeO o xs) (ks.take i)) ∧ St h G [c, OcC f o, TG.MpC (beF f) o 1 (TG.dgOf d) (m, 0) (delR o (treeO o xs) (ks.take i)), SlC s LF.sz (LF.flat (delF o (treeO o xs) (ks.take i)))] h') kn rfl
      ⟨0, (none, 0, 0), rfl, by omega, ⟨rfl, Nat.le_refl _, .inl rfl⟩, S.only [.ck c, .ck (OcC f o), .mp (m, 0), .sl (none, 0, 0)]⟩ ?_
    clear S
    rintro r _ _ ⟨i, s, rfl, hi, hs, S⟩
    by_cases hlt : i < kn
    · obtain ⟨p, hp, hrd⟩ := hk.ptr (by omega)
      dsimp only at hp
      subst hp
      have hxi := List.getElem?_eq_getElem (show i < ks.length by omega)
      have hsl : (delF o (treeO o xs) (ks.take i)).length = i := by rw [delF_len, List.length_take]; omega
      have hrl := delR_len o (treeO o xs) (ks.take i)
      obtain ⟨s1, s2, s3⟩ := s
      simp only [Int.toNat_natCast, toNat_succ, toNat_succ2, toNat_pred]
      refine w_true (lt_t (by (first | omega | ((try dsimp only [Sh.T, Sh1.T]); omega)))) ?_
      repeat (first | refine w_nonnil ?_ | refine ld_int S rfl ?_ | refine ld_some S rfl ?_ | refine ld_ptr S _ rfl ?_ | refine ld_sls S rfl ?_ | refine ld_nil S rfl ?_ | refine ld_bool S rfl ?_ | refine st_store S (lt_ble rfl) fun _ S => ?_ | refine st_alloc S fun _ _ S => ?_ | refine st_held S rfl ?_ | refine w_guard (by (first | exact inK64 (by omega) (by omega) | omega | (constructor <;> omega) | ((try dsimp only [Sh.T, Sh1.T]); first | exact inK64 (by omega) (by omega) | omega | exact ⟨by decide, inK64 (by omega) (by omega)⟩ | trivial))) ?_ | refine bd_n rfl ?_ | refine bd_e rfl ?_ | refine bd_r ?_ | refine bd_p ?_ | refine ln_r ?_ | refine ln_e ?_ | refine w_true (b := true) rfl ?_ | refine w_false (b := false) rfl ?_ | refine w_item (S.rdr hrd) (by assumption) ?_ | refine h_item (S.rdr hrd) (by assumption) ?_ | refine w_num (S.rdr hro) (by assumption) ?_ | refine ld_sln S rfl ?_ | refine ld_sl S _ _ _ rfl ?_)
      refine st_callB S [.mp (m, 0)] (fun G hG hb => HT.re (args' := [.c (.addr (m, 0)), .agg [.int .i64 ks[i].1, .int .i64 ks[i].2]]) rfl <| TG.c_Delete (k := ks[i]) (lss_before hl) (by omega) (hb (OcC f o) (by simp)) hG) ?_
      rintro _ _ _ ⟨rfl, rfl⟩ S
      dsimp only [List.cons_append, List.nil_append] at S
      refine st_callT S [] (fun G hG => c_found hG) ?_
      rintro _ _ _ ⟨rfl, rfl⟩ S
      rw [itR_f]
      dsimp only [List.cons_append, List.nil_append] at S
      refine st_alloc S fun n6 _ S => ?_
      refine st_apo (L := LF) (xs := delF o (treeO o xs) (ks.take i)) (y := fnd (ltO o) (delR o (treeO o xs) (ks.take i)) ks[i]) S hs rfl rfl (S.rsl (LF.flat [_]) 1 1 3 (fun i v h => by rw [Nat.zero_add]; exact h) rfl) ⟨by omega, by omega⟩ fun s' _ hs' S => ?_
      rw [← delF_snoc, ← take_snoc (by omega)] at hs'
      rw [← delF_snoc, ← delR_snoc, ← take_snoc (by omega)] at S
      refine w_guard (inK64 (by (first | omega | ((try dsimp only [Sh.T, Sh1.T]); omega))) (by (first | omega | ((try dsimp only [Sh.T, Sh1.T]); omega)))) ?_
      exact ln_n rfl (r - 1) ⟨i + 1, s', rfl, by omega, hs', S.only [.ck c, .ck (OcC f o), .mp (m, 0), .sl s']⟩ (by omega)
    · rw [List.take_of_length_le (by omega)] at hs S
      exact w_false (lt_f (by (first | omega | ((try dsimp only [Sh.T, Sh1.T]); omega)))) (ln_e (md_e rfl ⟨s, rfl, hs, S⟩))
  · rintro _ _ ⟨s, rfl, hs, S⟩
    have hrl := delR_len o (treeO o xs) ks
    refine st_callV S [.mp (m, 0)] (args' := [.c (.addr (m, 0))]) rfl (fun G hG => c_Items (by omega) hG) ?_
    rintro _ _ _ ⟨t, rfl, ht, rfl⟩ S
    dsimp only [List.cons_append, List.nil_append] at S
    exact rt_n rfl rfl ⟨_, ⟨s, t, rfl, hs, ht, rfl⟩, S.only [.ck c, .sl s, .sl t]⟩
set_option maxHeartbeats 2000000 in
theorem c_GDeleteAtI {c : Ck} {o : List Int} {op : Option PA} {on oc : Nat} (hr : Rdr c (op, on, oc) LN o) (hl : o.length ≤ 2147483647) {d : Int} {nl : Bool} (hd : d ≤ 128) {xs : List IV} {sp : Option PA} {n cap : Nat} (hx : Rdr c (sp, n, cap) LT xs) (hxl : xs.length ≤ 2147483647) {ks : List Int} {kp : Option PA} {kn kc : Nat} (hk : Rdr c (kp, kn, kc) LN ks) (hkl : ks.length ≤ 2147483647) {G : PA → Prop} (hG : Star [c] h G) :
    HT Try.prog fn_impl_GDeleteAt [.agg [.sl op on oc, .int .i64 d, .bool nl], .c (.sl sp n cap), .c (.sl kp kn kc)] true [.c .sl, .c .sl] h fun r h' => ∃ post, (∃ s t : SlT, r = (s, t, ()) ∧ OwnL LF s (cutsF (treeO o xs) ks) ∧ OwnL LT t (cutsR (treeO o xs) ks) ∧ post = [c, SlC s LF.sz (LF.flat (cutsF (treeO o xs) ks)), SlC t LT.sz (LT.flat (cutsR (treeO o xs) ks))]) ∧ St h G post h' := by
  apply hc_impl_GDeleteAt
  unfold M_impl_GDeleteAt
  have hn : kn = ks.length := hk.1
  have htl := treeO_len o xs
  refine st_alloc (St.start hG) fun n0 _ S => ?_
  (refine ld_sl S op on oc rfl (ld_int S rfl (ld_bool S rfl ?_)))
  (refine st_callT S [.ck c] (fun G hG => c_grow hr hl hd hx hxl hG) ?_; rintro _ _ _ ⟨m, f, rfl, rfl⟩ S; dsimp only [List.cons_append, List.nil_append] at S)
  have S := sl_nil LF S
  refine w_mid' (some 0) (fun (y : SV [.c .sl]) h' => ∃ s : SlT, y = (s, ()) ∧ OwnL LF s (cutsF (treeO o xs) ks) ∧ St h G [c, OcC f o, TG.MpC (beF f) o 1 (TG.dgOf d) (m, 0) (cutsR (treeO o xs) ks), SlC s LF.sz (LF.flat (cutsF (treeO o xs) ks))] h') ?_ ?_
  · refine w_lp (fun r y h' => ∃ (i : Nat) (s : SlT), y = ((i : Int), s, ()) ∧ i + r = kn ∧ OwnL LF s (cutsF (treeO o xs) (ks.take i)) ∧ St h G [c, OcC f o, TG.MpC (beF f) o 1 (TG.dgOf d) (m, 0) (cutsR (treeO o xs) (ks.take i)), SlC s LF.sz (LF.flat (cutsF (treeO o xs) (ks.take i)))] h') kn rfl
      ⟨0, (none, 0, 0), rfl, by omega, ⟨rfl, Nat.le_refl _, .inl rfl⟩, S.only [.ck c, .ck (OcC f o), .mp (m, 0), .sl (none, 0, 0)]⟩ ?_
    clear S
    rintro r _ _ ⟨i, s, rfl, hi, hs, S⟩
    by_cases hlt : i < kn
    · obtain ⟨p, hp, hro⟩ := hk.ptr (by omega)
      dsimp only at hp
      subst hp
      have hxi := List.getElem?_eq_getElem (show i < ks.length by omega)
      have hsl : (cutsF (treeO o xs) (ks.take i)).length = i := by rw [cutsF_len, List.length_take]; omega
      have hrl := cutsR_len (treeO o xs) (ks.take i)
      obtain ⟨s1, s2, s3⟩ := s
      simp only [Int.toNat_natCast, toNat_succ, toNat_succ2, toNat_pred]
      refine w_true (lt_t (by (first | omega | ((try dsimp only [Sh.T, Sh1.T]); omega)))) ?_
      repeat (first | refine w_nonnil ?_ | refine ld_int S rfl ?_ | refine ld_some S rfl ?_ | refine ld_ptr S _ rfl ?_ | refine ld_sls S rfl ?_ | refine ld_nil S rfl ?_ | refine ld_bool S rfl ?_ | refine st_store S (lt_ble rfl) fun _ S => ?_ | refine st_alloc S fun _ _ S => ?_ | refine st_held S rfl ?_ | refine w_guard (by (first | exact inK64 (by omega) (by omega) | omega | (constructor <;> omega) | ((try dsimp only [Sh.T, Sh1.T]); first | exact inK64 (by omega) (by omega) | omega | exact ⟨by decide, inK64 (by omega) (by omega)⟩ | trivial))) ?_ | refine bd_n rfl ?_ | refine bd_e rfl ?_ | refine bd_r ?_ | refine bd_p ?_ | refine ln_r ?_ | refine ln_e ?_ | refine w_true (b := true) rfl ?_ | refine w_false (b := false) rfl ?_ | refine w_item (S.rdr hrd) (by assumption) ?_ | refine h_item (S.rdr hrd) (by assumption) ?_ | refine w_num (S.rdr hro) (by assumption) ?_ | refine ld_sln S rfl ?_ | refine ld_sl S _ _ _ rfl ?_)
      have hlen : (cutsR (treeO o xs) (ks.take i)).length ≤ 4294967295 := by omega
      refine st_callB S [.mp (m, 0)] (fun G hG hb => HT.re (args' := [.c (.addr (m, 0)), .c (.int .i64 ks[i])]) rfl <| TG.c_DeleteAt (i := ks[i]) (lss_before hl) hlen (hb (OcC f o) (by simp)) hG) ?_
      rintro _ _ _ ⟨rfl, rfl⟩ S
      dsimp only [List.cons_append, List.nil_append] at S
      refine st_callT S [] (fun G hG => c_found hG) ?_
      rintro _ _ _ ⟨rfl, rfl⟩ S
      rw [itR_f]
      dsimp only [List.cons_append, List.nil_append] at S
      refine st_alloc S fun n6 _ S => ?_
      refine st_apo (L := LF) (xs := cutsF (treeO o xs) (ks.take i)) (y := TG.atK (cutsR (treeO o xs) (ks.take i)) ks[i]) S hs rfl rfl (S.rsl (LF.flat [_]) 1 1 3 (fun i v h => by rw [Nat.zero_add]; exact h) rfl) ⟨by omega, by omega⟩ fun s' _ hs' S => ?_
      rw [← cutsF_snoc, ← take_snoc (by omega)] at hs'
      rw [← cutsF_snoc, ← cutsR_snoc, ← take_snoc (by omega)] at S
      refine w_guard (inK64 (by (first | omega | ((try dsimp only [Sh.T, Sh1.T]); omega))) (by (first | omega | ((try dsimp only [Sh.T, Sh1.T]); omega)))) ?_
      exact ln_n rfl (r - 1) ⟨i + 1, s', rfl, by omega, hs', S.only [.ck c, .ck (OcC f o), .mp (m, 0), .sl s']⟩ (by omega)
    · rw [List.take_of_length_le (by omega)] at hs S
      exact w_false (lt_f (by (first | omega | ((try dsimp only [Sh.T, Sh1.T]); omega)))) (ln_e (md_e rfl ⟨s, rfl, hs, S⟩))
  · rintro _ _ ⟨s, rfl, hs, S⟩
    have hrl := cutsR_len (treeO o xs) ks
    refine st_callV S [.mp (m, 0)] (args' := [.c (.addr (m, 0))]) rfl (fun G hG => c_Items (by omega) hG) ?_
    rintro _ _ _ ⟨t, rfl, ht, rfl⟩ S
    dsimp only [List.cons_append, List.nil_append] at S
    exact rt_n rfl rfl ⟨_, ⟨s, t, rfl, hs, ht, rfl⟩, S.only [.ck c, .sl s, .sl t]⟩
set_option maxHeartbeats 2000000 in
theorem c_FnGDeleteTwo {hI : H} {o : List Int} {op : Option PA} {on oc : Nat} (hr : Rdr (BaC hI) (op, on, oc) LN o) {d : Int} {nl : Bool} {xs : List IV} {sp : Option PA} {n cap : Nat} (hx : Rdr (BaC hI) (sp, n, cap) LT xs) {x : IV} {G : PA → Prop} (hG : Star [BaC hI] h G) :
    HT Try.prog fn_laws_FnGDeleteTwo [.agg [.sl op on oc, .int .i64 d, .bool nl], .c (.sl sp n cap), .agg [.int .i64 x.1, .int .i64 x.2]] false [.c .bool] h fun r h' => ∃ post, (r = (true, ()) ∧ post = [BaC hI]) ∧ St h G post h' := by
  apply hc_laws_FnGDeleteTwo
  unfold M_laws_FnGDeleteTwo
  have hn : n = xs.length := hx.1
  have htl := treeO_len o xs
  have hst := treeO_srt o xs
  have hno : on = o.length := hr.1
  refine st_alloc (St.start hG) fun n0 _ S => ?_
  refine st_alloc S fun n1 _ S => ?_
  refine w_mid' none (fun (y : SV [.c .bool]) h' => (y = (true, ()) ∨ y = (false, ()) ∧ on ≤ 2147483647 ∧ n ≤ 2147483647) ∧ St h G [Ow (n0, 0) (List.map Cell.val [.sl op on oc, .int .i64 d, .bool nl]) 0, Ow (n1, 0) (LT.cells x) 0, BaC hI] h') ?_ ?_
  · refine ld_sl S op on oc rfl (ld_int S rfl (ld_bool S rfl ?_))
    refine st_callT S [] (fun G hG => c_zzFits1 hG) ?_
    rintro _ _ _ ⟨rfl, rfl⟩ S
    dsimp only [List.cons_append, List.nil_append] at S
    by_cases hbo : on > 2147483647
    · exact w_true (by rw [decide_eq_false (by (first | omega | ((try dsimp only [Sh.T, Sh1.T]); omega)))]; rfl) (md_n rfl ⟨.inl rfl, S.only [.ow (n0, 0), .ow (n1, 0), .ck (BaC hI)]⟩)
    refine w_false (by rw [decide_eq_true (by (first | omega | ((try dsimp only [Sh.T, Sh1.T]); omega)))]; rfl) ?_
    by_cases hb0 : n > 2147483647
    · exact md_n (x := (true, ())) (by rw [decide_eq_true (by omega)]; rfl) ⟨.inl rfl, S.only [.ow (n0, 0), .ow (n1, 0), .ck (BaC hI)]⟩
    exact md_n (x := (false, ())) (by rw [decide_eq_false (by omega)]; rfl) ⟨.inr ⟨rfl, by omega, by omega⟩, S.only [.ow (n0, 0), .ow (n1, 0), .ck (BaC hI)]⟩
  rintro _ _ ⟨rfl | ⟨rfl, hz0, hz1⟩, S⟩
  · exact w_true rfl (rt_1 rfl ⟨_, ⟨rfl, rfl⟩, S.only [.ck (BaC hI)]⟩)
  refine w_false rfl ?_
  refine ld_sl S op on oc rfl (ld_int S rfl (ld_bool S rfl ?_))
  refine st_callT S [] (fun G hG => c_fits hG) ?_
  rintro _ _ _ ⟨rfl, rfl⟩ S
  dsimp only [List.cons_append, List.nil_append] at S
  by_cases hf : d = 0 ∨ 2 ≤ d ∧ d ≤ 128
  case neg =>
    refine w_true (by rw [decide_eq_false hf]; rfl) ?_
    refine st_callT S [] (fun G hG => c_alive hG) ?_
    rintro _ _ _ ⟨rfl, rfl⟩ S
    dsimp only [List.cons_append, List.nil_append] at S
    exact rt_1 rfl ⟨_, ⟨rfl, rfl⟩, S.only [.ck (BaC hI)]⟩
  refine w_false (by rw [decide_eq_true hf]; rfl) ?_
  (refine ld_sl S op on oc rfl (ld_int S rfl (ld_bool S rfl ?_)))
  refine st_callT S [.ck (BaC hI)] (fun G hG => c_GItems hr (by omega) (by omega) hx (by omega) hG) ?_
  rintro _ _ _ ⟨s, rfl, hs, rfl⟩ S
  dsimp only [List.cons_append, List.nil_append] at S
  have S := St.st_in (m := [Ow (n0, 0) (List.map Cell.val [.sl op on oc, .int .i64 d, .bool nl]) 0, Ow (n1, 0) (LT.cells x) 0, BaC hI]) (S.ats [.ow (n0, 0), .ow (n1, 0), .ck (BaC hI)])
  refine st_callT S [.sl s, .ck (StC [Ow (n0, 0) (List.map Cell.val [.sl op on oc, .int .i64 d, .bool nl]) 0, Ow (n1, 0) (LT.cells x) 0, BaC hI])] (fun G hG => c_IdxFunc (cb_two hr (by omega)) hs.rdr (by omega) hG) ?_
  rintro _ _ _ ⟨⟨i, rfl, hi⟩, rfl⟩ S
  dsimp only [List.cons_append, List.nil_append] at S
  have S := (S.at (.ck (StC [Ow (n0, 0) (List.map Cell.val [.sl op on oc, .int .i64 d, .bool nl]) 0, Ow (n1, 0) (LT.cells x) 0, BaC hI]))).st_out
  dsimp only [List.cons_append, List.nil_append] at S
  have hkey : [fnd (ltO o) (treeO o xs) x] = [TG.atK (treeO o xs) i] ∧ del (ltO o) (treeO o xs) x = TG.cutK (treeO o xs) i := by
    rcases hi with ⟨rfl, hno⟩ | ⟨j, y, rfl, hj, hp⟩
    · have hf := no_eqv hst hno
      rw [TG.del_none hf, hf]
      obtain ⟨e1, e2⟩ := atK_out (l := treeO o xs) (i := -1) (.inl (by decide))
      rw [e1, e2]; exact ⟨rfl, rfl⟩
    · obtain ⟨h1, h2⟩ := eqv_iff.1 hp
      obtain ⟨_, hf, hd⟩ := fnd_at (ordO o) hst hj h1 h2
      rw [hf, hd]
      have e1 : TG.atK (treeO o xs) (j : Int) = some y := by unfold TG.atK; rw [if_neg (by omega), Int.toNat_natCast, hj]
      have e2 : TG.cutK (treeO o xs) (j : Int) = (treeO o xs).eraseIdx j := by unfold TG.cutK; rw [if_neg (by omega), Int.toNat_natCast]
      rw [e1, e2]; exact ⟨rfl, rfl⟩
  refine ld_sl S op on oc rfl (ld_int S rfl (ld_bool S rfl (ld_int S rfl (ld_int S rfl ?_))))
  refine st_alloc S fun nk _ S => ?_
  have S : St h G (Ow (nk, 0) (LT.flat [x]) 0 :: _) _ := S
  have S := St.st_in (m := [_, _]) (S.ats [.ck (BaC hI), .ow (nk, 0)])
  refine st_callT S [.ck (StC [BaC hI, Ow (nk, 0) (LT.flat [x]) 0])] (fun G hG => c_GDeleteI (Rdr.st (i := 0) rfl hr) (by omega) (by omega) (Rdr.st (i := 0) rfl hx) (by omega) (Rdr.st (i := 1) rfl (Rdr.ow (xs := [x]) rfl)) (by simp) hG) ?_
  rintro _ _ _ ⟨s1, t1, rfl, hs1, ht1, rfl⟩ S
  dsimp only [List.cons_append, List.nil_append] at S
  have S := (S.at (.ck (StC [BaC hI, Ow (nk, 0) (LT.flat [x]) 0]))).st_out
  dsimp only [List.cons_append, List.nil_append] at S
  refine ld_sl S op on oc rfl (ld_int S rfl (ld_bool S rfl ?_))
  refine st_alloc S fun nj _ S => ?_
  have S : St h G (Ow (nj, 0) (LN.flat [i]) 0 :: _) _ := S
  have S := St.st_in (m := [_, _]) (S.ats [.ck (BaC hI), .ow (nj, 0)])
  refine st_callT S [.ck (StC [BaC hI, Ow (nj, 0) (LN.flat [i]) 0])] (fun G hG => c_GDeleteAtI (Rdr.st (i := 0) rfl hr) (by omega) (by omega) (Rdr.st (i := 0) rfl hx) (by omega) (Rdr.st (i := 1) rfl (Rdr.ow (xs := [i]) rfl)) (by simp) hG) ?_
  rintro _ _ _ ⟨s2, t2, rfl, hs2, ht2, rfl⟩ S
  dsimp only [List.cons_append, List.nil_append] at S
  have S := (S.at (.ck (StC [BaC hI, Ow (nj, 0) (LN.flat [i]) 0]))).st_out
  dsimp only [List.cons_append, List.nil_append] at S
  have e1 : cutsF (treeO o xs) [i] = delF o (treeO o xs) [x] := hkey.1.symm
  have e2 : cutsR (treeO o xs) [i] = delR o (treeO o xs) [x] := hkey.2.symm
  rw [e1, e2] at S
  rw [e1] at hs2
  rw [e2] at ht2
  have hrl := delR_len o (treeO o xs) [x]
  refine w_mid' none (fun (y : SV [.c .bool]) h' => y = (true, ()) ∧ St h G [BaC hI] h') ?_ (fun _ _ ⟨e, S⟩ => by subst e; exact rt_1 rfl ⟨_, ⟨rfl, rfl⟩, S⟩)
  refine st_eqF S hs1 hs2 (by rw [delF_len]; simp) fun _ S => w_true rfl ?_
  refine st_eqT S (.sl t1) (.sl t2) ht1.rdr ht2.rdr (by omega) fun _ S => ?_
  refine w_true (by simp) ?_
  (refine st_callT S [] (fun G hG => c_alive hG) ?_; rintro _ _ _ ⟨rfl, rfl⟩ S; dsimp only [List.cons_append, List.nil_append] at S)
  exact md_n rfl ⟨rfl, S.only [.ck (BaC hI)]⟩
end
end Go.Proofs.Ytebiihomlhljkaa
