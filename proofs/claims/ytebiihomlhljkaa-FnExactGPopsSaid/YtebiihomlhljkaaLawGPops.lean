/-
  The law FnExactGPops. Conditions: none.
-/
import Derived.Test.YtebiihomlhljkaaYal
import Derived.Test.YtebiihomlhljkaaYbl
import Derived.Test.YtebiihomlhljkaaYpq
import Derived.Test.YtebiihomlhljkaaPf
set_option linter.unusedVariables false
set_option linter.unusedSimpArgs false
set_option linter.unusedSectionVars false
set_option maxRecDepth 100000
namespace Go.Proofs.Ytebiihomlhljkaa
open Go
def M_spec_GPops (a00p : Option PA) (a00l : Nat) (a00c : Nat) (a01 : Int) (a02 : Bool) (a1p : Option PA) (a1l : Nat) (a1c : Nat) (a2p : Option PA) (a2l : Nat) (a2c : Nat) : M :=
  .alloc ty_impl_Make [.sl (a00p) (a00l) (a00c), .int .i64 (a01), .bool (a02)] fun n0 =>
  .load (n0, 0) (.sl) fun s1 =>
  .call fn_spec_Tree [.c (.sl (s1.fst) (s1.snd.fst) (s1.snd.snd)), .c (.sl (a1p) (a1l) (a1c))] false [.c (.sl)] fun r2 =>
  .bind (some 0) (.loop [.c (.int .i64), .c (.sl), .c (.sl)] [.c (.int .i64 (0)), .c (.sl none (0) (0)), .c (.sl (r2.fst.fst) (r2.fst.snd.fst) (r2.fst.snd.snd))] fun y3 =>
      .ite (decide (y3.fst < (↑a2l : Int)))
      (.nonnil (a2p) fun p4 =>
        .guard (((0 : Int) ≤ y3.fst) ∧ ((y3.fst : Int) < (↑a2l : Int))) <|
        .load (p4.fst, p4.snd + Int.toNat y3.fst) (.bool) fun b5 =>
        .bind none (.ite (b5)
          (.guard (InK IntKind.i64 ((↑y3.snd.snd.fst.snd.fst : Int) - 1)) <|
            .done .normal [.c (.int .i64 ((↑y3.snd.snd.fst.snd.fst : Int) - 1))])
          (.done .normal [.c (.int .i64 (0))])) [.c (.int .i64)] fun x6 =>
        .alloc ty_impl_Found [.int .i64 (0), .int .i64 (0), .ff] fun n7 =>
        .call fn_spec_Cut [.c (.sl (y3.snd.snd.fst.fst) (y3.snd.snd.fst.snd.fst) (y3.snd.snd.fst.snd.snd)), .c (.int .i64 (x6.fst))] true [.c (.sl), .agg [.int .i64, .int .i64, .bool]] fun r8 =>
        .store (n7, 0) (.int .i64 (r8.snd.fst.fst)) <|
        .store (n7, 1) (.int .i64 (r8.snd.fst.snd.fst)) <|
        .store (n7, 2) (.bool (r8.snd.fst.snd.snd.fst)) <|
        .load (n7, 0) (.int .i64) fun i9 =>
        .load (n7, 1) (.int .i64) fun i10 =>
        .load (n7, 2) (.bool) fun b11 =>
        .alloc ty_impl_Found [.int .i64 (i9), .int .i64 (i10), .bool (b11)] fun n12 =>
        .append ty_impl_Found 3 24 [.int .i64 (0), .int .i64 (0), .ff] ((y3.snd.fst.fst), y3.snd.fst.snd.fst, y3.snd.fst.snd.snd) ((some (n12, 0)), 1, 1) fun s13 =>
        .guard (InK IntKind.i64 (y3.fst + 1)) <|
        .done .normal [.c (.int .i64 (y3.fst + 1)), .c (.sl (s13.fst) (s13.snd.fst) (s13.snd.snd)), .c (.sl (r8.fst.fst) (r8.fst.snd.fst) (r8.fst.snd.snd))])
      (.done (.exit 0) [.c (.sl (y3.snd.fst.fst) (y3.snd.fst.snd.fst) (y3.snd.fst.snd.snd)), .c (.sl (y3.snd.snd.fst.fst) (y3.snd.snd.fst.snd.fst) (y3.snd.snd.fst.snd.snd))])) [.c (.sl), .c (.sl)] fun x14 =>
  .done .ret [.c (.sl (x14.fst.fst) (x14.fst.snd.fst) (x14.fst.snd.snd)), .c (.sl (x14.snd.fst.fst) (x14.snd.fst.snd.fst) (x14.snd.fst.snd.snd))]
theorem den_spec_GPops (a00p : Option PA) (a00l : Nat) (a00c : Nat) (a01 : Int) (a02 : Bool) (a1p : Option PA) (a1l : Nat) (a1c : Nat) (a2p : Option PA) (a2l : Nat) (a2c : Nat) : denFn Try.prog Try.f67 [.agg [.sl a00p a00l a00c, .int .i64 a01, .bool a02], .c (.sl a1p a1l a1c), .c (.sl a2p a2l a2c)] = M_spec_GPops a00p a00l a00c a01 a02 a1p a1l a1c a2p a2l a2c := by kernel_rfl
theorem hc_spec_GPops (a00p : Option PA) (a00l : Nat) (a00c : Nat) (a01 : Int) (a02 : Bool) (a1p : Option PA) (a1l : Nat) (a1c : Nat) (a2p : Option PA) (a2l : Nat) (a2c : Nat) {h : H} {R : Value → H → Prop} (hw : wp Try.prog (M_spec_GPops a00p a00l a00c a01 a02 a1p a1l a1c a2p a2l a2c) (Ret R) h) : HC Try.prog fn_spec_GPops (List.map AV.val [.agg [.sl a00p a00l a00c, .int .i64 a01, .bool a02], .c (.sl a1p a1l a1c), .c (.sl a2p a2l a2c)]).toArray h R :=
  den_calls hmix Try.func67 (of_decide_eq_true rfl) (by rw [den_spec_GPops]; exact hw)
def M_impl_GPops (a00p : Option PA) (a00l : Nat) (a00c : Nat) (a01 : Int) (a02 : Bool) (a1p : Option PA) (a1l : Nat) (a1c : Nat) (a2p : Option PA) (a2l : Nat) (a2c : Nat) : M :=
  .alloc ty_impl_Make [.sl (a00p) (a00l) (a00c), .int .i64 (a01), .bool (a02)] fun n0 =>
  .load (n0, 0) (.sl) fun s1 =>
  .load (n0, 1) (.int .i64) fun i2 =>
  .load (n0, 2) (.bool) fun b3 =>
  .call fn_impl_grow [.agg [.sl (s1.fst) (s1.snd.fst) (s1.snd.snd), .int .i64 (i2), .bool (b3)], .c (.sl (a1p) (a1l) (a1c))] false [.c (.ptr)] fun r4 =>
  .bind (some 0) (.loop [.c (.int .i64), .c (.sl)] [.c (.int .i64 (0)), .c (.sl none (0) (0))] fun y5 =>
      .ite (decide (y5.fst < (↑a2l : Int)))
      (.nonnil (a2p) fun p6 =>
        .guard (((0 : Int) ≤ y5.fst) ∧ ((y5.fst : Int) < (↑a2l : Int))) <|
        .load (p6.fst, p6.snd + Int.toNat y5.fst) (.bool) fun b7 =>
        .bind none (.ite (b7)
          (.call fn_tg_PopMax [.c (.ptr (r4.fst))] true [.agg [.int .i64, .int .i64], .c (.bool)] fun r8 =>
            .call fn_impl_found [.agg [.int .i64 (r8.fst.fst), .int .i64 (r8.fst.snd.fst)], .c (.bool (r8.snd.fst))] false [.agg [.int .i64, .int .i64, .bool]] fun r9 =>
            .alloc ty_impl_Found [.int .i64 (r9.fst.fst), .int .i64 (r9.fst.snd.fst), .bool (r9.fst.snd.snd.fst)] fun n10 =>
            .append ty_impl_Found 3 24 [.int .i64 (0), .int .i64 (0), .ff] ((y5.snd.fst.fst), y5.snd.fst.snd.fst, y5.snd.fst.snd.snd) ((some (n10, 0)), 1, 1) fun s11 =>
            .done .normal [.c (.sl (s11.fst) (s11.snd.fst) (s11.snd.snd))])
          (.call fn_tg_PopMin [.c (.ptr (r4.fst))] true [.agg [.int .i64, .int .i64], .c (.bool)] fun r12 =>
            .call fn_impl_found [.agg [.int .i64 (r12.fst.fst), .int .i64 (r12.fst.snd.fst)], .c (.bool (r12.snd.fst))] false [.agg [.int .i64, .int .i64, .bool]] fun r13 =>
            .alloc ty_impl_Found [.int .i64 (r13.fst.fst), .int .i64 (r13.fst.snd.fst), .bool (r13.fst.snd.snd.fst)] fun n14 =>
            .append ty_impl_Found 3 24 [.int .i64 (0), .int .i64 (0), .ff] ((y5.snd.fst.fst), y5.snd.fst.snd.fst, y5.snd.fst.snd.snd) ((some (n14, 0)), 1, 1) fun s15 =>
            .done .normal [.c (.sl (s15.fst) (s15.snd.fst) (s15.snd.snd))])) [.c (.sl)] fun x16 =>
        .guard (InK IntKind.i64 (y5.fst + 1)) <|
        .done .normal [.c (.int .i64 (y5.fst + 1)), .c (.sl (x16.fst.fst) (x16.fst.snd.fst) (x16.fst.snd.snd))])
      (.done (.exit 0) [.c (.sl (y5.snd.fst.fst) (y5.snd.fst.snd.fst) (y5.snd.fst.snd.snd))])) [.c (.sl)] fun x17 =>
  .call fn_tg_Items [.c (.ptr (r4.fst))] false [.c (.sl)] fun r18 =>
  .done .ret [.c (.sl (x17.fst.fst) (x17.fst.snd.fst) (x17.fst.snd.snd)), .c (.sl (r18.fst.fst) (r18.fst.snd.fst) (r18.fst.snd.snd))]
theorem den_impl_GPops (a00p : Option PA) (a00l : Nat) (a00c : Nat) (a01 : Int) (a02 : Bool) (a1p : Option PA) (a1l : Nat) (a1c : Nat) (a2p : Option PA) (a2l : Nat) (a2c : Nat) : denFn Try.prog Try.f66 [.agg [.sl a00p a00l a00c, .int .i64 a01, .bool a02], .c (.sl a1p a1l a1c), .c (.sl a2p a2l a2c)] = M_impl_GPops a00p a00l a00c a01 a02 a1p a1l a1c a2p a2l a2c := by kernel_rfl
theorem hc_impl_GPops (a00p : Option PA) (a00l : Nat) (a00c : Nat) (a01 : Int) (a02 : Bool) (a1p : Option PA) (a1l : Nat) (a1c : Nat) (a2p : Option PA) (a2l : Nat) (a2c : Nat) {h : H} {R : Value → H → Prop} (hw : wp Try.prog (M_impl_GPops a00p a00l a00c a01 a02 a1p a1l a1c a2p a2l a2c) (Ret R) h) : HC Try.prog fn_impl_GPops (List.map AV.val [.agg [.sl a00p a00l a00c, .int .i64 a01, .bool a02], .c (.sl a1p a1l a1c), .c (.sl a2p a2l a2c)]).toArray h R :=
  den_calls hmix Try.func66 (of_decide_eq_true rfl) (by rw [den_impl_GPops]; exact hw)
def M_laws_gPops (a00p : Option PA) (a00l : Nat) (a00c : Nat) (a01 : Int) (a02 : Bool) (a1p : Option PA) (a1l : Nat) (a1c : Nat) (a2p : Option PA) (a2l : Nat) (a2c : Nat) : M :=
  .alloc ty_impl_Make [.sl (a00p) (a00l) (a00c), .int .i64 (a01), .bool (a02)] fun n0 =>
  .load (n0, 0) (.sl) fun s1 =>
  .load (n0, 1) (.int .i64) fun i2 =>
  .load (n0, 2) (.bool) fun b3 =>
  .call fn_impl_GPops [.agg [.sl (s1.fst) (s1.snd.fst) (s1.snd.snd), .int .i64 (i2), .bool (b3)], .c (.sl (a1p) (a1l) (a1c)), .c (.sl (a2p) (a2l) (a2c))] true [.c (.sl), .c (.sl)] fun r4 =>
  .load (n0, 0) (.sl) fun s5 =>
  .load (n0, 1) (.int .i64) fun i6 =>
  .load (n0, 2) (.bool) fun b7 =>
  .call fn_spec_GPops [.agg [.sl (s5.fst) (s5.snd.fst) (s5.snd.snd), .int .i64 (i6), .bool (b7)], .c (.sl (a1p) (a1l) (a1c)), .c (.sl (a2p) (a2l) (a2c))] true [.c (.sl), .c (.sl)] fun r8 =>
  .bind none (.call fn_slices_Equal_impl_Found_impl_Found [.c (.sl (r4.fst.fst) (r4.fst.snd.fst) (r4.fst.snd.snd)), .c (.sl (r8.fst.fst) (r8.fst.snd.fst) (r8.fst.snd.snd))] false [.c (.bool)] fun r9 =>
    .ite (r9.fst)
    (.call fn_slices_Equal_impl_Item_impl_Item [.c (.sl (r4.snd.fst.fst) (r4.snd.fst.snd.fst) (r4.snd.fst.snd.snd)), .c (.sl (r8.snd.fst.fst) (r8.snd.fst.snd.fst) (r8.snd.fst.snd.snd))] false [.c (.bool)] fun r10 =>
      .done .normal [.c (.bool (r10.fst))])
    (.done .normal [.c (.ff)])) [.c (.bool)] fun x11 =>
  .done .ret [.c (.bool (x11.fst))]
theorem den_laws_gPops (a00p : Option PA) (a00l : Nat) (a00c : Nat) (a01 : Int) (a02 : Bool) (a1p : Option PA) (a1l : Nat) (a1c : Nat) (a2p : Option PA) (a2l : Nat) (a2c : Nat) : denFn Try.prog Try.f37 [.agg [.sl a00p a00l a00c, .int .i64 a01, .bool a02], .c (.sl a1p a1l a1c), .c (.sl a2p a2l a2c)] = M_laws_gPops a00p a00l a00c a01 a02 a1p a1l a1c a2p a2l a2c := by kernel_rfl
theorem hc_laws_gPops (a00p : Option PA) (a00l : Nat) (a00c : Nat) (a01 : Int) (a02 : Bool) (a1p : Option PA) (a1l : Nat) (a1c : Nat) (a2p : Option PA) (a2l : Nat) (a2c : Nat) {h : H} {R : Value → H → Prop} (hw : wp Try.prog (M_laws_gPops a00p a00l a00c a01 a02 a1p a1l a1c a2p a2l a2c) (Ret R) h) : HC Try.prog fn_laws_gPops (List.map AV.val [.agg [.sl a00p a00l a00c, .int .i64 a01, .bool a02], .c (.sl a1p a1l a1c), .c (.sl a2p a2l a2c)]).toArray h R :=
  den_calls hmix Try.func37 (of_decide_eq_true rfl) (by rw [den_laws_gPops]; exact hw)
def M_laws_FnExactGPops (a00p : Option PA) (a00l : Nat) (a00c : Nat) (a01 : Int) (a02 : Bool) (a1p : Option PA) (a1l : Nat) (a1c : Nat) (a2p : Option PA) (a2l : Nat) (a2c : Nat) : M :=
  .alloc ty_impl_Make [.sl (a00p) (a00l) (a00c), .int .i64 (a01), .bool (a02)] fun n0 =>
  .bind none (.load (n0, 0) (.sl) fun s1 =>
    .load (n0, 1) (.int .i64) fun i2 =>
    .load (n0, 2) (.bool) fun b3 =>
    .call fn_laws_zzFits1 [.agg [.sl (s1.fst) (s1.snd.fst) (s1.snd.snd), .int .i64 (i2), .bool (b3)]] false [.c (.bool)] fun r4 =>
    .ite (!r4.fst)
    (.done .normal [.c (.tt)])
    (.ite (decide ((↑a1l : Int) > 2147483647))
      (.done .normal [.c (.tt)])
      (.done .normal [.c (.bool (decide ((↑a2l : Int) > 2147483647)))]))) [.c (.bool)] fun x5 =>
  .ite (x5.fst)
  (.done .ret [.c (.tt)])
  (.bind none (.call fn_laws_exMake [] false [.agg [.sl, .int .i64, .bool]] fun r6 =>
      .call fn_laws_exItems [] false [.c (.sl)] fun r7 =>
      .alloc ty_bool [.tt, .ff] fun n8 =>
      .call fn_laws_gPops [.agg [.sl (r6.fst.fst.fst) (r6.fst.fst.snd.fst) (r6.fst.fst.snd.snd), .int .i64 (r6.fst.snd.fst), .bool (r6.fst.snd.snd.fst)], .c (.sl (r7.fst.fst) (r7.fst.snd.fst) (r7.fst.snd.snd)), .c (.sl (some (n8, 0)) (2) (2))] false [.c (.bool)] fun r9 =>
      .ite (r9.fst)
      (.load (n0, 1) (.int .i64) fun i10 =>
        .call fn_spec_Fits [.c (.int .i64 (i10))] false [.c (.bool)] fun r11 =>
        .ite (!r11.fst)
        (.done .normal [.c (.tt)])
        (.load (n0, 0) (.sl) fun s12 =>
          .load (n0, 1) (.int .i64) fun i13 =>
          .load (n0, 2) (.bool) fun b14 =>
          .call fn_laws_gPops [.agg [.sl (s12.fst) (s12.snd.fst) (s12.snd.snd), .int .i64 (i13), .bool (b14)], .c (.sl (a1p) (a1l) (a1c)), .c (.sl (a2p) (a2l) (a2c))] false [.c (.bool)] fun r15 =>
          .done .normal [.c (.bool (r15.fst))]))
      (.done .normal [.c (.ff)])) [.c (.bool)] fun x16 =>
    .done .ret [.c (.bool (x16.fst))])
theorem den_laws_FnExactGPops (a00p : Option PA) (a00l : Nat) (a00c : Nat) (a01 : Int) (a02 : Bool) (a1p : Option PA) (a1l : Nat) (a1c : Nat) (a2p : Option PA) (a2l : Nat) (a2c : Nat) : denFn Try.prog Try.f8 [.agg [.sl a00p a00l a00c, .int .i64 a01, .bool a02], .c (.sl a1p a1l a1c), .c (.sl a2p a2l a2c)] = M_laws_FnExactGPops a00p a00l a00c a01 a02 a1p a1l a1c a2p a2l a2c := by kernel_rfl
theorem hc_laws_FnExactGPops (a00p : Option PA) (a00l : Nat) (a00c : Nat) (a01 : Int) (a02 : Bool) (a1p : Option PA) (a1l : Nat) (a1c : Nat) (a2p : Option PA) (a2l : Nat) (a2c : Nat) {h : H} {R : Value → H → Prop} (hw : wp Try.prog (M_laws_FnExactGPops a00p a00l a00c a01 a02 a1p a1l a1c a2p a2l a2c) (Ret R) h) : HC Try.prog fn_laws_FnExactGPops (List.map AV.val [.agg [.sl a00p a00l a00c, .int .i64 a01, .bool a02], .c (.sl a1p a1l a1c), .c (.sl a2p a2l a2c)]).toArray h R :=
  den_calls hmix Try.func8 (of_decide_eq_true rfl) (by rw [den_laws_FnExactGPops]; exact hw)
def popX (l : List IV) (b : Bool) : Option IV := if b then l.getLast? else l.head?
def popL (l : List IV) (b : Bool) : List IV := if b then l.dropLast else l.tail
def popsR (l : List IV) (bs : List Bool) : List IV := bs.foldl popL l
def popsF : List IV → List Bool → List (Option IV)
  | _, [] => []
  | l, b :: bs => popX l b :: popsF (popL l b) bs
theorem popsR_snoc (l : List IV) (bs : List Bool) (b : Bool) : popsR l (bs ++ [b]) = popL (popsR l bs) b := by simp [popsR]
theorem popsF_snoc : ∀ (l : List IV) (bs : List Bool) (b : Bool), popsF l (bs ++ [b]) = popsF l bs ++ [popX (popsR l bs) b]
  | l, [], b => rfl
  | l, a :: bs, b => by
    show popX l a :: popsF (popL l a) (bs ++ [b]) = _
    rw [popsF_snoc]; rfl
theorem popsF_len : ∀ (l : List IV) (bs : List Bool), (popsF l bs).length = bs.length
  | _, [] => rfl
  | l, b :: bs => by show (popsF (popL l b) bs).length + 1 = _; rw [popsF_len]; rfl
theorem popL_len (l : List IV) (b : Bool) : (popL l b).length ≤ l.length := by
  unfold popL
  split <;> simp
theorem popsR_len (l : List IV) (bs : List Bool) : (popsR l bs).length ≤ l.length := by
  induction bs generalizing l with
  | nil => exact Nat.le_refl _
  | cons b bs ih => exact Nat.le_trans (ih (popL l b)) (popL_len l b)
theorem pop_at (l : List IV) (b : Bool) : popX l b = TG.atK l (if b then (l.length : Int) - 1 else 0) ∧ popL l b = TG.cutK l (if b then (l.length : Int) - 1 else 0) := by
  unfold popX popL TG.atK TG.cutK
  cases b with
  | false => simp [List.head?_eq_getElem?, List.eraseIdx_zero]
  | true =>
    cases l with
    | nil => simp
    | cons a l =>
      have e : (((a :: l).length : Int) - 1).toNat = (a :: l).length - 1 := by simp
      simp only [if_true]
      rw [if_neg (by simp), if_neg (by simp), e, erase_last, List.getLast?_eq_getElem?]
      exact ⟨rfl, rfl⟩
section
variable {h : H}
set_option maxHeartbeats 2000000 in
theorem c_specGPops {c : Ck} {o : List Int} {op : Option PA} {on oc : Nat} (hr : Rdr c (op, on, oc) LN o) (hl : o.length ≤ 2147483647) {d : Int} {nl : Bool} {xs : List IV} {sp : Option PA} {n cap : Nat} (hx : Rdr c (sp, n, cap) LT xs) (hxl : xs.length ≤ 2147483647) {bs : List Bool} {bp : Option PA} {bn bc : Nat} (hb : Rdr c (bp, bn, bc) LB bs) (hbl : bs.length ≤ 2147483647) {G : PA → Prop} (hG : Star [c] h G) :
    HT Try.prog fn_spec_GPops [.agg [.sl op on oc, .int .i64 d, .bool nl], .c (.sl sp n cap), .c (.sl bp bn bc)] true [.c .sl, .c .sl] h fun r h' => ∃ post, (∃ s t : SlT, r = (s, t, ()) ∧ OwnL LF s (popsF (treeO o xs) bs) ∧ OwnL LT t (popsR (treeO o xs) bs) ∧ post = [c, SlC s LF.sz (LF.flat (popsF (treeO o xs) bs)), SlC t LT.sz (LT.flat (popsR (treeO o xs) bs))]) ∧ St h G post h' := by
  apply hc_spec_GPops
  unfold M_spec_GPops
  have hn : bn = bs.length := hb.1
  have htl := treeO_len o xs
  refine st_alloc (St.start hG) fun n0 _ S => ?_
  refine ld_sl S op on oc rfl ?_
  refine st_callT S [.ck c] (fun G hG => c_Tree hr hl hx (by omega) hG) ?_
  rintro _ _ _ ⟨t0, rfl, ht0, rfl⟩ S
  dsimp only [List.cons_append, List.nil_append] at S
  have S := sl_nil LF S
  refine w_mid' (some 0) (fun (y : SV [.c .sl, .c .sl]) h' => ∃ s t : SlT, y = (s, t, ()) ∧ OwnL LF s (popsF (treeO o xs) bs) ∧ OwnL LT t (popsR (treeO o xs) bs) ∧ St h G [c, SlC s LF.sz (LF.flat (popsF (treeO o xs) bs)), SlC t LT.sz (LT.flat (popsR (treeO o xs) bs))] h') ?_
    (fun _ _ ⟨s, t, e, h1, h2, S⟩ => by subst e; exact rt_n rfl rfl ⟨_, ⟨s, t, rfl, h1, h2, rfl⟩, S⟩)
  refine w_lp (fun r y h' => ∃ (i : Nat) (s t : SlT), y = ((i : Int), s, t, ()) ∧ i + r = bn ∧ OwnL LF s (popsF (treeO o xs) (bs.take i)) ∧ OwnL LT t (popsR (treeO o xs) (bs.take i)) ∧ St h G [c, SlC s LF.sz (LF.flat (popsF (treeO o xs) (bs.take i))), SlC t LT.sz (LT.flat (popsR (treeO o xs) (bs.take i)))] h') bn rfl
    ⟨0, (none, 0, 0), t0, rfl, by omega, ⟨rfl, Nat.le_refl _, .inl rfl⟩, ht0, S.only [.ck c, .sl (none, 0, 0), .sl t0]⟩ ?_
  clear S
  rintro r _ _ ⟨i, s, t, rfl, hi, hs, ht, S⟩
  by_cases hlt : i < bn
  · obtain ⟨p, hp, hro⟩ := hb.ptr (by omega)
    dsimp only at hp
    subst hp
    have hxi := List.getElem?_eq_getElem (show i < bs.length by omega)
    have hsl : (popsF (treeO o xs) (bs.take i)).length = i := by rw [popsF_len, List.length_take]; omega
    have hrl := popsR_len (treeO o xs) (bs.take i)
    obtain ⟨s1, s2, s3⟩ := s
    obtain ⟨t1, t2, t3⟩ := t
    have htn : t2 = (popsR (treeO o xs) (bs.take i)).length := ht.1
    simp only [Int.toNat_natCast, toNat_succ, toNat_succ2, toNat_pred]
    refine w_true (lt_t (by (first | omega | ((try dsimp only [Sh.T, Sh1.T]); omega)))) (w_nonnil (w_guard ⟨by (first | omega | ((try dsimp only [Sh.T, Sh1.T]); omega)), by (first | omega | ((try dsimp only [Sh.T, Sh1.T]); omega))⟩ ?_))
    refine w_bl (S.rdr hro) hxi ?_
    refine w_mid' none (fun (y : SV [.c (.int .i64)]) h' => y = ((if bs[i] then ((popsR (treeO o xs) (bs.take i)).length : Int) - 1 else 0), ()) ∧ St h G [c, SlC (s1, s2, s3) LF.sz (LF.flat (popsF (treeO o xs) (bs.take i))), SlC (t1, t2, t3) LT.sz (LT.flat (popsR (treeO o xs) (bs.take i)))] h') ?_ ?_
    · generalize bs[i] = e
      cases e with
      | true => exact w_true rfl (w_guard (inK64 (by (first | omega | ((try dsimp only [Sh.T, Sh1.T]); omega))) (by (first | omega | ((try dsimp only [Sh.T, Sh1.T]); omega)))) (md_n rfl ⟨by rw [if_pos rfl, ← htn], S⟩))
      | false => exact w_false rfl (md_n rfl ⟨rfl, S⟩)
    clear S
    rintro _ _ ⟨rfl, S⟩
    refine st_alloc S fun n7 _ S => ?_
    refine st_callT S [.sl (t1, t2, t3)] (fun G hG => c_CutAny ht (by omega) hG) ?_
    rintro _ _ _ ⟨t', rfl, ht', rfl⟩ S
    dsimp only [List.cons_append, List.nil_append] at S
    rw [← (pop_at _ _).1]
    rw [← (pop_at _ _).2, ← popsR_snoc, ← take_snoc (by omega)] at S ht'
    refine st_store S (lt_ble rfl) fun _ S => ?_
    refine st_store S (lt_ble rfl) fun _ S => ?_
    refine st_store S (lt_ble rfl) fun _ S => ?_
    refine ld_int S rfl (ld_int S rfl (ld_bool S rfl ?_))
    refine st_alloc S fun n12 _ S => ?_
    refine st_apo (L := LF) (xs := popsF (treeO o xs) (bs.take i)) (y := popX (popsR (treeO o xs) (bs.take i)) bs[i]) S hs rfl rfl (S.rsl (LF.flat [_]) 1 1 3 (fun i v h => by rw [Nat.zero_add]; exact h) rfl) ⟨by omega, by omega⟩ fun s' _ hs' S => ?_
    have S := S.only [.ck c, .sl s', .sl t']
    rw [← popsF_snoc, ← take_snoc (by omega)] at hs' S
    refine w_guard (inK64 (by (first | omega | ((try dsimp only [Sh.T, Sh1.T]); omega))) (by (first | omega | ((try dsimp only [Sh.T, Sh1.T]); omega)))) ?_
    exact ln_n rfl (r - 1) ⟨i + 1, s', t', rfl, by omega, hs', ht', S⟩ (by omega)
  · rw [List.take_of_length_le (by omega)] at hs ht S
    exact w_false (lt_f (by (first | omega | ((try dsimp only [Sh.T, Sh1.T]); omega)))) (ln_e (md_e rfl ⟨s, t, rfl, hs, ht, S⟩))
set_option maxHeartbeats 2000000 in
theorem c_GPopsI {c : Ck} {o : List Int} {op : Option PA} {on oc : Nat} (hr : Rdr c (op, on, oc) LN o) (hl : o.length ≤ 2147483647) {d : Int} {nl : Bool} (hd : d ≤ 128) {xs : List IV} {sp : Option PA} {n cap : Nat} (hx : Rdr c (sp, n, cap) LT xs) (hxl : xs.length ≤ 2147483647) {bs : List Bool} {bp : Option PA} {bn bc : Nat} (hb : Rdr c (bp, bn, bc) LB bs) (hbl : bs.length ≤ 2147483647) {G : PA → Prop} (hG : Star [c] h G) :
    HT Try.prog fn_impl_GPops [.agg [.sl op on oc, .int .i64 d, .bool nl], .c (.sl sp n cap), .c (.sl bp bn bc)] true [.c .sl, .c .sl] h fun r h' => ∃ post, (∃ s t : SlT, r = (s, t, ()) ∧ OwnL LF s (popsF (treeO o xs) bs) ∧ OwnL LT t (popsR (treeO o xs) bs) ∧ post = [c, SlC s LF.sz (LF.flat (popsF (treeO o xs) bs)), SlC t LT.sz (LT.flat (popsR (treeO o xs) bs))]) ∧ St h G post h' := by
  apply hc_impl_GPops
  unfold M_impl_GPops
  have hn : bn = bs.length := hb.1
  have htl := treeO_len o xs
  refine st_alloc (St.start hG) fun n0 _ S => ?_
  (refine ld_sl S op on oc rfl (ld_int S rfl (ld_bool S rfl ?_)))
  (refine st_callT S [.ck c] (fun G hG => c_grow hr hl hd hx hxl hG) ?_; rintro _ _ _ ⟨m, f, rfl, rfl⟩ S; dsimp only [List.cons_append, List.nil_append] at S)
  have S := sl_nil LF S
  refine w_mid' (some 0) (fun (y : SV [.c .sl]) h' => ∃ s : SlT, y = (s, ()) ∧ OwnL LF s (popsF (treeO o xs) bs) ∧ St h G [c, OcC f o, TG.MpC (beF f) o 1 (TG.dgOf d) (m, 0) (popsR (treeO o xs) bs), SlC s LF.sz (LF.flat (popsF (treeO o xs) bs))] h') ?_ ?_
  · refine w_lp (fun r y h' => ∃ (i : Nat) (s : SlT), y = ((i : Int), s, ()) ∧ i + r = bn ∧ OwnL LF s (popsF (treeO o xs) (bs.take i)) ∧ St h G [c, OcC f o, TG.MpC (beF f) o 1 (TG.dgOf d) (m, 0) (popsR (treeO o xs) (bs.take i)), SlC s LF.sz (LF.flat (popsF (treeO o xs) (bs.take i)))] h') bn rfl
      ⟨0, (none, 0, 0), rfl, by omega, ⟨rfl, Nat.le_refl _, .inl rfl⟩, S.only [.ck c, .ck (OcC f o), .mp (m, 0), .sl (none, 0, 0)]⟩ ?_
    clear S
    rintro r _ _ ⟨i, s, rfl, hi, hs, S⟩
    by_cases hlt : i < bn
    · obtain ⟨p, hp, hro⟩ := hb.ptr (by omega)
      dsimp only at hp
      subst hp
      have hxi := List.getElem?_eq_getElem (show i < bs.length by omega)
      have hsl : (popsF (treeO o xs) (bs.take i)).length = i := by rw [popsF_len, List.length_take]; omega
      have hrl := popsR_len (treeO o xs) (bs.take i)
      obtain ⟨s1, s2, s3⟩ := s
      simp only [Int.toNat_natCast, toNat_succ, toNat_succ2, toNat_pred]
      refine w_true (lt_t (by (first | omega | ((try dsimp only [Sh.T, Sh1.T]); omega)))) (w_nonnil (w_guard ⟨by (first | omega | ((try dsimp only [Sh.T, Sh1.T]); omega)), by (first | omega | ((try dsimp only [Sh.T, Sh1.T]); omega))⟩ ?_))
      refine w_bl (S.rdr hro) hxi ?_
      refine w_mid' none (fun (y : SV [.c .sl]) h' => ∃ s : SlT, y = (s, ()) ∧ OwnL LF s (popsF (treeO o xs) (bs.take (i + 1))) ∧ St h G [c, OcC f o, TG.MpC (beF f) o 1 (TG.dgOf d) (m, 0) (popsR (treeO o xs) (bs.take (i + 1))), SlC s LF.sz (LF.flat (popsF (treeO o xs) (bs.take (i + 1))))] h') ?_ ?_
      · rw [take_snoc (show i < bs.length by omega), popsF_snoc, popsR_snoc]
        generalize bs[i] = e at *
        cases e with
        | true =>
          refine w_true rfl ?_
          refine st_callB S [.mp (m, 0)] (fun G hG hb => HT.re (args' := [.c (.addr (m, 0))]) rfl <| TG.c_PopMax (lss_before hl) (by omega) (hb (OcC f o) (by simp)) hG) ?_
          rintro _ _ _ ⟨rfl, rfl⟩ S
          dsimp only [List.cons_append, List.nil_append] at S
          refine st_callT S [] (fun G hG => c_found hG) ?_
          rintro _ _ _ ⟨rfl, rfl⟩ S
          rw [itR_f]
          dsimp only [List.cons_append, List.nil_append] at S
          refine st_alloc S fun n6 _ S => ?_
          refine st_apo (L := LF) (xs := popsF (treeO o xs) (bs.take i)) (y := (popsR (treeO o xs) (bs.take i)).getLast?) S hs rfl rfl (S.rsl (LF.flat [_]) 1 1 3 (fun i v h => by rw [Nat.zero_add]; exact h) rfl) ⟨by omega, by omega⟩ fun s' _ hs' S => ?_
          exact md_n rfl ⟨s', rfl, hs', S.only [.ck c, .ck (OcC f o), .mp (m, 0), .sl s']⟩
        | false =>
          refine w_false rfl ?_
          refine st_callB S [.mp (m, 0)] (fun G hG hb => HT.re (args' := [.c (.addr (m, 0))]) rfl <| TG.c_PopMin (lss_before hl) (by omega) (hb (OcC f o) (by simp)) hG) ?_
          rintro _ _ _ ⟨rfl, rfl⟩ S
          dsimp only [List.cons_append, List.nil_append] at S
          refine st_callT S [] (fun G hG => c_found hG) ?_
          rintro _ _ _ ⟨rfl, rfl⟩ S
          rw [itR_f]
          dsimp only [List.cons_append, List.nil_append] at S
          refine st_alloc S fun n6 _ S => ?_
          refine st_apo (L := LF) (xs := popsF (treeO o xs) (bs.take i)) (y := (popsR (treeO o xs) (bs.take i)).head?) S hs rfl rfl (S.rsl (LF.flat [_]) 1 1 3 (fun i v h => by rw [Nat.zero_add]; exact h) rfl) ⟨by omega, by omega⟩ fun s' _ hs' S => ?_
          exact md_n rfl ⟨s', rfl, hs', S.only [.ck c, .ck (OcC f o), .mp (m, 0), .sl s']⟩
      · clear S
        rintro _ _ ⟨s', rfl, hs', S⟩
        refine w_guard (inK64 (by (first | omega | ((try dsimp only [Sh.T, Sh1.T]); omega))) (by (first | omega | ((try dsimp only [Sh.T, Sh1.T]); omega)))) ?_
        exact ln_n rfl (r - 1) ⟨i + 1, s', rfl, by omega, hs', S⟩ (by omega)
    · rw [List.take_of_length_le (by omega)] at hs S
      exact w_false (lt_f (by (first | omega | ((try dsimp only [Sh.T, Sh1.T]); omega)))) (ln_e (md_e rfl ⟨s, rfl, hs, S⟩))
  · rintro _ _ ⟨s, rfl, hs, S⟩
    have hrl := popsR_len (treeO o xs) bs
    refine st_callV S [.mp (m, 0)] (args' := [.c (.addr (m, 0))]) rfl (fun G hG => c_Items (by omega) hG) ?_
    rintro _ _ _ ⟨t, rfl, ht, rfl⟩ S
    dsimp only [List.cons_append, List.nil_append] at S
    exact rt_n rfl rfl ⟨_, ⟨s, t, rfl, hs, ht, rfl⟩, S.only [.ck c, .sl s, .sl t]⟩
theorem c_gPops {c : Ck} {o : List Int} {op : Option PA} {on oc : Nat} (hr : Rdr c (op, on, oc) LN o) (hl : o.length ≤ 2147483647) {d : Int} {nl : Bool} (hd : d ≤ 128) {xs : List IV} {sp : Option PA} {n cap : Nat} (hx : Rdr c (sp, n, cap) LT xs) (hxl : xs.length ≤ 2147483647) {bs : List Bool} {bp : Option PA} {bn bc : Nat} (hb : Rdr c (bp, bn, bc) LB bs) (hbl : bs.length ≤ 2147483647) {G : PA → Prop} (hG : Star [c] h G) :
    HT Try.prog fn_laws_gPops [.agg [.sl op on oc, .int .i64 d, .bool nl], .c (.sl sp n cap), .c (.sl bp bn bc)] false [.c .bool] h fun r h' => ∃ post, (r = (true, ()) ∧ post = [c]) ∧ St h G post h' := by
  apply hc_laws_gPops
  unfold M_laws_gPops
  have htl := treeO_len o xs
  have hrl := popsR_len (treeO o xs) bs
  have hsl := popsF_len (treeO o xs) bs
  refine st_alloc (St.start hG) fun n0 _ S => ?_
  (refine ld_sl S op on oc rfl (ld_int S rfl (ld_bool S rfl ?_)))
  refine st_callT S [.ck c] (fun G hG => c_GPopsI hr hl hd hx hxl hb hbl hG) ?_
  rintro _ _ _ ⟨s, t, rfl, hs, ht, rfl⟩ S
  dsimp only [List.cons_append, List.nil_append] at S
  (refine ld_sl S op on oc rfl (ld_int S rfl (ld_bool S rfl ?_)))
  refine st_callT S [.ck c] (fun G hG => c_specGPops hr hl hx hxl hb hbl hG) ?_
  rintro _ _ _ ⟨s2, t2, rfl, hs2, ht2, rfl⟩ S
  dsimp only [List.cons_append, List.nil_append] at S
  refine w_mid' none (fun (y : SV [.c .bool]) h' => y = (true, ()) ∧ St h G [c] h') ?_ (fun _ _ ⟨e, S⟩ => by subst e; exact rt_1 rfl ⟨_, ⟨rfl, rfl⟩, S⟩)
  refine st_eqF S hs hs2 (by omega) fun _ S => w_true rfl ?_
  refine st_eqT S (.sl t) (.sl t2) ht.rdr ht2.rdr (by omega) fun _ S => ?_
  exact md_n rfl ⟨by simp, S.only [.ck c]⟩
set_option maxHeartbeats 1000000 in
theorem c_FnExactGPops {hI : H} {o : List Int} {op : Option PA} {on oc : Nat} (hr : Rdr (BaC hI) (op, on, oc) LN o) {d : Int} {nl : Bool} {xs : List IV} {sp : Option PA} {n cap : Nat} (hx : Rdr (BaC hI) (sp, n, cap) LT xs) {bs : List Bool} {bp : Option PA} {bn bc : Nat} (hb : Rdr (BaC hI) (bp, bn, bc) LB bs) {G : PA → Prop} (hG : Star [BaC hI] h G) :
    HT Try.prog fn_laws_FnExactGPops [.agg [.sl op on oc, .int .i64 d, .bool nl], .c (.sl sp n cap), .c (.sl bp bn bc)] false [.c .bool] h fun r h' => ∃ post, (r = (true, ()) ∧ post = [BaC hI]) ∧ St h G post h' := by
  apply hc_laws_FnExactGPops
  unfold M_laws_FnExactGPops
  have hno : on = o.length := hr.1
  have hn : n = xs.length := hx.1
  refine st_alloc (St.start hG) fun n0 _ S => ?_
  skip
  refine w_mid' none (fun (y : SV [.c .bool]) h' => (y = (true, ()) ∨ y = (false, ()) ∧ on ≤ 2147483647 ∧ n ≤ 2147483647 ∧ bn ≤ 2147483647) ∧ St h G [Ow (n0, 0) (List.map Cell.val [.sl op on oc, .int .i64 d, .bool nl]) 0, BaC hI] h') ?_ ?_
  · refine ld_sl S op on oc rfl (ld_int S rfl (ld_bool S rfl ?_))
    refine st_callT S [] (fun G hG => c_zzFits1 hG) ?_
    rintro _ _ _ ⟨rfl, rfl⟩ S
    dsimp only [List.cons_append, List.nil_append] at S
    by_cases hbo : on > 2147483647
    · exact w_true (by rw [decide_eq_false (by (first | omega | ((try dsimp only [Sh.T, Sh1.T]); omega)))]; rfl) (md_n rfl ⟨.inl rfl, S.only [.ow (n0, 0), .ck (BaC hI)]⟩)
    refine w_false (by rw [decide_eq_true (by (first | omega | ((try dsimp only [Sh.T, Sh1.T]); omega)))]; rfl) ?_
    by_cases hb0 : n > 2147483647
    · exact w_true (decide_eq_true (by omega)) (md_n rfl ⟨.inl rfl, S.only [.ow (n0, 0), .ck (BaC hI)]⟩)
    refine w_false (decide_eq_false (by omega)) ?_
    by_cases hb1 : bn > 2147483647
    · exact md_n (x := (true, ())) (by rw [decide_eq_true (by omega)]; rfl) ⟨.inl rfl, S.only [.ow (n0, 0), .ck (BaC hI)]⟩
    exact md_n (x := (false, ())) (by rw [decide_eq_false (by omega)]; rfl) ⟨.inr ⟨rfl, by omega, by omega, by omega⟩, S.only [.ow (n0, 0), .ck (BaC hI)]⟩
  rintro _ _ ⟨rfl | ⟨rfl, hz0, hz1, hz2⟩, S⟩
  · exact w_true rfl (rt_1 rfl ⟨_, ⟨rfl, rfl⟩, S.only [.ck (BaC hI)]⟩)
  refine w_false rfl ?_
  refine w_mid' none (fun (y : SV [.c .bool]) h' => y = (true, ()) ∧ St h G [BaC hI] h') ?_ (fun _ _ ⟨e, S⟩ => by subst e; exact rt_1 rfl ⟨_, ⟨rfl, rfl⟩, S⟩)
  refine st_callT S [] (fun G hG => c_exMake hG) ?_
  rintro _ _ _ ⟨rfl, rfl⟩ S
  dsimp only [List.cons_append, List.nil_append] at S
  refine st_callT S [] (fun G hG => c_exItems hG) ?_
  rintro _ _ _ ⟨ne, rfl, rfl⟩ S
  dsimp only [List.cons_append, List.nil_append] at S
  (refine st_alloc S fun nk _ S => ?_; have S : St h G [Ow (ne, 0) (LT.flat exI) 0, Ow (nk, 0) (LB.flat [true, false]) 0, _, _] _ := S.ats [.ow (ne, 0), .ow (nk, 0)])
  refine st_callT (l := StC [Ow (ne, 0) (LT.flat exI) 0, Ow (nk, 0) (LB.flat [true, false]) 0] :: _) (St.st_in (m := [_, _]) S) [.ck (StC [Ow (ne, 0) (LT.flat exI) 0, Ow (nk, 0) (LB.flat [true, false]) 0])] (fun G hG => c_gPops (o := []) Rdr.nil (by decide) (by decide) (Rdr.st (i := 0) rfl (Rdr.ow (xs := exI) rfl)) (by decide) (Rdr.st (i := 1) rfl (Rdr.ow (xs := [true, false]) rfl)) (by decide) hG) ?_
  rintro _ _ _ ⟨rfl, rfl⟩ S
  dsimp only [List.cons_append, List.nil_append] at S
  refine w_true rfl (ld_int S rfl ?_)
  refine w_callT c_Fits ?_
  rintro _ _ ⟨rfl, rfl⟩
  by_cases hf : d = 0 ∨ 2 ≤ d ∧ d ≤ 128
  · refine w_false (by rw [decide_eq_true hf]; rfl) ?_
    refine ld_sl S op on oc rfl (ld_int S rfl (ld_bool S rfl ?_))
    skip
    refine st_callT S [.ck (BaC hI)] (fun G hG => c_gPops hr (by omega) (by omega) hx (by omega) hb (by have := hb.1; dsimp only at this; omega) hG) ?_
    rintro _ _ _ ⟨rfl, rfl⟩ S
    dsimp only [List.cons_append, List.nil_append] at S
    exact md_n rfl ⟨rfl, S.only [.ck (BaC hI)]⟩
  · exact w_true (by rw [decide_eq_false hf]; rfl) (md_n rfl ⟨rfl, S.only [.ck (BaC hI)]⟩)
end
end Go.Proofs.Ytebiihomlhljkaa
