/-
  The law FnExactMDeleteAt. Conditions: none.
-/
import Derived.Test.YtkhpbcckaenmcaaEt
import Derived.Test.YtkhpbcckaenmcaaPdmi
import Derived.Test.YtkhpbcckaenmcaaGc
set_option linter.unusedVariables false
set_option linter.unusedSimpArgs false
set_option linter.unusedSectionVars false
set_option maxRecDepth 100000
namespace Go.Proofs.Ytkhpbcckaenmcaa
open Go

def M_impl_MDeleteAt (a0 : Int) (a1p : Option PA) (a1l : Nat) (a1c : Nat) (a2p : Option PA) (a2l : Nat) (a2c : Nat) : M :=
  .call fn_impl_growMap [.c (.int .i64 (a0)), .c (.sl (a1p) (a1l) (a1c))] false [.c (.ptr)] fun r0 =>
  .bind (some 0) (.loop [.c (.int .i64), .c (.sl)] [.c (.int .i64 (0)), .c (.sl none (0) (0))] fun y1 =>
      .ite (decide (y1.fst < (↑a2l : Int)))
      (.nonnil (a2p) fun p2 =>
        .guard (((0 : Int) ≤ y1.fst) ∧ ((y1.fst : Int) < (↑a2l : Int))) <|
        .load (p2.fst, p2.snd + Int.toNat y1.fst) (.int .i64) fun i3 =>
        .call fn_mi_DeleteAt [.c (.ptr (r0.fst)), .c (.int .i64 (i3))] true [.c (.int .i64), .c (.int .i64), .c (.bool)] fun r4 =>
        .call fn_impl_pair [.c (.int .i64 (r4.fst)), .c (.int .i64 (r4.snd.fst)), .c (.bool (r4.snd.snd.fst))] false [.agg [.int .i64, .int .i64, .bool]] fun r5 =>
        .alloc ty_impl_Found [.int .i64 (r5.fst.fst), .int .i64 (r5.fst.snd.fst), .bool (r5.fst.snd.snd.fst)] fun n6 =>
        .append ty_impl_Found 3 24 [.int .i64 (0), .int .i64 (0), .ff] ((y1.snd.fst.fst), y1.snd.fst.snd.fst, y1.snd.fst.snd.snd) ((some (n6, 0)), 1, 1) fun s7 =>
        .guard (InK IntKind.i64 (y1.fst + 1)) <|
        .done .normal [.c (.int .i64 (y1.fst + 1)), .c (.sl (s7.fst) (s7.snd.fst) (s7.snd.snd))])
      (.done (.exit 0) [.c (.sl (y1.snd.fst.fst) (y1.snd.fst.snd.fst) (y1.snd.fst.snd.snd))])) [.c (.sl)] fun x8 =>
  .call fn_impl_entries [.c (.ptr (r0.fst))] false [.c (.sl)] fun r9 =>
  .done .ret [.c (.sl (x8.fst.fst) (x8.fst.snd.fst) (x8.fst.snd.snd)), .c (.sl (r9.fst.fst) (r9.fst.snd.fst) (r9.fst.snd.snd))]

theorem den_impl_MDeleteAt (a0 : Int) (a1p : Option PA) (a1l : Nat) (a1c : Nat) (a2p : Option PA) (a2l : Nat) (a2c : Nat) : denFn Try.prog Try.f31 [.c (.int .i64 a0), .c (.sl a1p a1l a1c), .c (.sl a2p a2l a2c)] = M_impl_MDeleteAt a0 a1p a1l a1c a2p a2l a2c := by kernel_rfl
theorem hc_impl_MDeleteAt (a0 : Int) (a1p : Option PA) (a1l : Nat) (a1c : Nat) (a2p : Option PA) (a2l : Nat) (a2c : Nat) {h : H} {R : Value → H → Prop} (hw : wp Try.prog (M_impl_MDeleteAt a0 a1p a1l a1c a2p a2l a2c) (Ret R) h) : HC Try.prog fn_impl_MDeleteAt (List.map AV.val [.c (.int .i64 a0), .c (.sl a1p a1l a1c), .c (.sl a2p a2l a2c)]).toArray h R :=
  den_calls hmix Try.func31 (of_decide_eq_true rfl) (by rw [den_impl_MDeleteAt]; exact hw)

def M_spec_GDeleteAt (a00p : Option PA) (a00l : Nat) (a00c : Nat) (a01 : Int) (a02 : Bool) (a1p : Option PA) (a1l : Nat) (a1c : Nat) (a2p : Option PA) (a2l : Nat) (a2c : Nat) : M :=
  .alloc ty_impl_Make [.sl (a00p) (a00l) (a00c), .int .i64 (a01), .bool (a02)] fun n0 =>
  .load (n0, 0) (.sl) fun s1 =>
  .call fn_spec_Tree [.c (.sl (s1.fst) (s1.snd.fst) (s1.snd.snd)), .c (.sl (a1p) (a1l) (a1c))] false [.c (.sl)] fun r2 =>
  .bind (some 0) (.loop [.c (.int .i64), .c (.sl), .c (.sl)] [.c (.int .i64 (0)), .c (.sl none (0) (0)), .c (.sl (r2.fst.fst) (r2.fst.snd.fst) (r2.fst.snd.snd))] fun y3 =>
      .ite (decide (y3.fst < (↑a2l : Int)))
      (.nonnil (a2p) fun p4 =>
        .guard (((0 : Int) ≤ y3.fst) ∧ ((y3.fst : Int) < (↑a2l : Int))) <|
        .load (p4.fst, p4.snd + Int.toNat y3.fst) (.int .i64) fun i5 =>
        .alloc ty_impl_Found [.int .i64 (0), .int .i64 (0), .ff] fun n6 =>
        .call fn_spec_Cut [.c (.sl (y3.snd.snd.fst.fst) (y3.snd.snd.fst.snd.fst) (y3.snd.snd.fst.snd.snd)), .c (.int .i64 (i5))] true [.c (.sl), .agg [.int .i64, .int .i64, .bool]] fun r7 =>
        .store (n6, 0) (.int .i64 (r7.snd.fst.fst)) <|
        .store (n6, 1) (.int .i64 (r7.snd.fst.snd.fst)) <|
        .store (n6, 2) (.bool (r7.snd.fst.snd.snd.fst)) <|
        .load (n6, 0) (.int .i64) fun i8 =>
        .load (n6, 1) (.int .i64) fun i9 =>
        .load (n6, 2) (.bool) fun b10 =>
        .alloc ty_impl_Found [.int .i64 (i8), .int .i64 (i9), .bool (b10)] fun n11 =>
        .append ty_impl_Found 3 24 [.int .i64 (0), .int .i64 (0), .ff] ((y3.snd.fst.fst), y3.snd.fst.snd.fst, y3.snd.fst.snd.snd) ((some (n11, 0)), 1, 1) fun s12 =>
        .guard (InK IntKind.i64 (y3.fst + 1)) <|
        .done .normal [.c (.int .i64 (y3.fst + 1)), .c (.sl (s12.fst) (s12.snd.fst) (s12.snd.snd)), .c (.sl (r7.fst.fst) (r7.fst.snd.fst) (r7.fst.snd.snd))])
      (.done (.exit 0) [.c (.sl (y3.snd.fst.fst) (y3.snd.fst.snd.fst) (y3.snd.fst.snd.snd)), .c (.sl (y3.snd.snd.fst.fst) (y3.snd.snd.fst.snd.fst) (y3.snd.snd.fst.snd.snd))])) [.c (.sl), .c (.sl)] fun x13 =>
  .done .ret [.c (.sl (x13.fst.fst) (x13.fst.snd.fst) (x13.fst.snd.snd)), .c (.sl (x13.snd.fst.fst) (x13.snd.fst.snd.fst) (x13.snd.fst.snd.snd))]

theorem den_spec_GDeleteAt (a00p : Option PA) (a00l : Nat) (a00c : Nat) (a01 : Int) (a02 : Bool) (a1p : Option PA) (a1l : Nat) (a1c : Nat) (a2p : Option PA) (a2l : Nat) (a2c : Nat) : denFn Try.prog Try.f62 [.agg [.sl a00p a00l a00c, .int .i64 a01, .bool a02], .c (.sl a1p a1l a1c), .c (.sl a2p a2l a2c)] = M_spec_GDeleteAt a00p a00l a00c a01 a02 a1p a1l a1c a2p a2l a2c := by kernel_rfl
theorem hc_spec_GDeleteAt (a00p : Option PA) (a00l : Nat) (a00c : Nat) (a01 : Int) (a02 : Bool) (a1p : Option PA) (a1l : Nat) (a1c : Nat) (a2p : Option PA) (a2l : Nat) (a2c : Nat) {h : H} {R : Value → H → Prop} (hw : wp Try.prog (M_spec_GDeleteAt a00p a00l a00c a01 a02 a1p a1l a1c a2p a2l a2c) (Ret R) h) : HC Try.prog fn_spec_GDeleteAt (List.map AV.val [.agg [.sl a00p a00l a00c, .int .i64 a01, .bool a02], .c (.sl a1p a1l a1c), .c (.sl a2p a2l a2c)]).toArray h R :=
  den_calls hmix Try.func62 (of_decide_eq_true rfl) (by rw [den_spec_GDeleteAt]; exact hw)

def M_laws_mDeleteAt (a0 : Int) (a1p : Option PA) (a1l : Nat) (a1c : Nat) (a2p : Option PA) (a2l : Nat) (a2c : Nat) : M :=
  .call fn_impl_MDeleteAt [.c (.int .i64 (a0)), .c (.sl (a1p) (a1l) (a1c)), .c (.sl (a2p) (a2l) (a2c))] true [.c (.sl), .c (.sl)] fun r0 =>
  .call fn_spec_GDeleteAt [.agg [.sl none (0) (0), .int .i64 (0), .ff], .c (.sl (a1p) (a1l) (a1c)), .c (.sl (a2p) (a2l) (a2c))] true [.c (.sl), .c (.sl)] fun r1 =>
  .bind none (.call fn_slices_Equal_impl_Found_impl_Found [.c (.sl (r0.fst.fst) (r0.fst.snd.fst) (r0.fst.snd.snd)), .c (.sl (r1.fst.fst) (r1.fst.snd.fst) (r1.fst.snd.snd))] false [.c (.bool)] fun r2 =>
    .ite (r2.fst)
    (.call fn_slices_Equal_impl_Item_impl_Item [.c (.sl (r0.snd.fst.fst) (r0.snd.fst.snd.fst) (r0.snd.fst.snd.snd)), .c (.sl (r1.snd.fst.fst) (r1.snd.fst.snd.fst) (r1.snd.fst.snd.snd))] false [.c (.bool)] fun r3 =>
      .done .normal [.c (.bool (r3.fst))])
    (.done .normal [.c (.ff)])) [.c (.bool)] fun x4 =>
  .done .ret [.c (.bool (x4.fst))]

theorem den_laws_mDeleteAt (a0 : Int) (a1p : Option PA) (a1l : Nat) (a1c : Nat) (a2p : Option PA) (a2l : Nat) (a2c : Nat) : denFn Try.prog Try.f28 [.c (.int .i64 a0), .c (.sl a1p a1l a1c), .c (.sl a2p a2l a2c)] = M_laws_mDeleteAt a0 a1p a1l a1c a2p a2l a2c := by kernel_rfl
theorem hc_laws_mDeleteAt (a0 : Int) (a1p : Option PA) (a1l : Nat) (a1c : Nat) (a2p : Option PA) (a2l : Nat) (a2c : Nat) {h : H} {R : Value → H → Prop} (hw : wp Try.prog (M_laws_mDeleteAt a0 a1p a1l a1c a2p a2l a2c) (Ret R) h) : HC Try.prog fn_laws_mDeleteAt (List.map AV.val [.c (.int .i64 a0), .c (.sl a1p a1l a1c), .c (.sl a2p a2l a2c)]).toArray h R :=
  den_calls hmix Try.func28 (of_decide_eq_true rfl) (by rw [den_laws_mDeleteAt]; exact hw)

def M_laws_exPlaces  : M :=
  .alloc ty_int [.int .i64 (0), .int .i64 (2), .int .i64 (5), .int .i64 (-1), .int .i64 (100)] fun n0 =>
  .done .ret [.c (.sl (some (n0, 0)) (5) (5))]

theorem den_laws_exPlaces  : denFn Try.prog Try.f29 [] = M_laws_exPlaces  := by kernel_rfl
theorem hc_laws_exPlaces  {h : H} {R : Value → H → Prop} (hw : wp Try.prog (M_laws_exPlaces ) (Ret R) h) : HC Try.prog fn_laws_exPlaces (List.map AV.val []).toArray h R :=
  den_calls hmix Try.func29 (of_decide_eq_true rfl) (by rw [den_laws_exPlaces]; exact hw)

def M_laws_FnExactMDeleteAt (a0 : Int) (a1p : Option PA) (a1l : Nat) (a1c : Nat) (a2p : Option PA) (a2l : Nat) (a2c : Nat) : M :=
  .bind none (.ite (decide ((↑a1l : Int) > 2147483647))
    (.done .normal [.c (.tt)])
    (.done .normal [.c (.bool (decide ((↑a2l : Int) > 2147483647)))])) [.c (.bool)] fun x0 =>
  .ite (x0.fst)
  (.done .ret [.c (.tt)])
  (.bind none (.call fn_laws_exItems [] false [.c (.sl)] fun r1 =>
      .call fn_laws_exPlaces [] false [.c (.sl)] fun r2 =>
      .call fn_laws_mDeleteAt [.c (.int .i64 (2)), .c (.sl (r1.fst.fst) (r1.fst.snd.fst) (r1.fst.snd.snd)), .c (.sl (r2.fst.fst) (r2.fst.snd.fst) (r2.fst.snd.snd))] false [.c (.bool)] fun r3 =>
      .ite (r3.fst)
      (.call fn_spec_Fits [.c (.int .i64 (a0))] false [.c (.bool)] fun r4 =>
        .ite (r4.fst)
        (.ite (!decide (a0 > 0))
          (.done .normal [.c (.tt)])
          (.call fn_laws_mDeleteAt [.c (.int .i64 (a0)), .c (.sl (a1p) (a1l) (a1c)), .c (.sl (a2p) (a2l) (a2c))] false [.c (.bool)] fun r5 =>
            .done .normal [.c (.bool (r5.fst))]))
        (.done .normal [.c (.tt)]))
      (.done .normal [.c (.ff)])) [.c (.bool)] fun x6 =>
    .done .ret [.c (.bool (x6.fst))])

theorem den_laws_FnExactMDeleteAt (a0 : Int) (a1p : Option PA) (a1l : Nat) (a1c : Nat) (a2p : Option PA) (a2l : Nat) (a2c : Nat) : denFn Try.prog Try.f10 [.c (.int .i64 a0), .c (.sl a1p a1l a1c), .c (.sl a2p a2l a2c)] = M_laws_FnExactMDeleteAt a0 a1p a1l a1c a2p a2l a2c := by kernel_rfl
theorem hc_laws_FnExactMDeleteAt (a0 : Int) (a1p : Option PA) (a1l : Nat) (a1c : Nat) (a2p : Option PA) (a2l : Nat) (a2c : Nat) {h : H} {R : Value → H → Prop} (hw : wp Try.prog (M_laws_FnExactMDeleteAt a0 a1p a1l a1c a2p a2l a2c) (Ret R) h) : HC Try.prog fn_laws_FnExactMDeleteAt (List.map AV.val [.c (.int .i64 a0), .c (.sl a1p a1l a1c), .c (.sl a2p a2l a2c)]).toArray h R :=
  den_calls hmix Try.func10 (of_decide_eq_true rfl) (by rw [den_laws_FnExactMDeleteAt]; exact hw)


/-- What is deleted at indices, one after the other, and what is left. -/
def cutsR (l : List IV) (is : List Int) : List IV := is.foldl MI.cutK l
def cutsF : List IV → List Int → List (Option IV)
  | _, [] => []
  | l, i :: is => MI.atK l i :: cutsF (MI.cutK l i) is
theorem cutsR_snoc (l : List IV) (is : List Int) (i : Int) : cutsR l (is ++ [i]) = MI.cutK (cutsR l is) i := by simp [cutsR]
theorem cutsF_snoc : ∀ (l : List IV) (is : List Int) (i : Int), cutsF l (is ++ [i]) = cutsF l is ++ [MI.atK (cutsR l is) i]
  | l, [], b => rfl
  | l, a :: bs, b => by
    show MI.atK l a :: cutsF (MI.cutK l a) (bs ++ [b]) = _
    rw [cutsF_snoc]; rfl
theorem cutsF_len : ∀ (l : List IV) (bs : List Int), (cutsF l bs).length = bs.length
  | _, [] => rfl
  | l, b :: bs => by show (cutsF (MI.cutK l b) bs).length + 1 = _; rw [cutsF_len]; rfl
theorem cutK_len (l : List IV) (i : Int) : (MI.cutK l i).length ≤ l.length := by
  unfold MI.cutK
  split
  · exact Nat.le_refl _
  · exact List.length_eraseIdx_le l _
theorem cutsR_len (l : List IV) (bs : List Int) : (cutsR l bs).length ≤ l.length := by
  induction bs generalizing l with
  | nil => exact Nat.le_refl _
  | cons b bs ih => exact Nat.le_trans (ih (MI.cutK l b)) (cutK_len l b)
section
variable {h : H}
set_option maxHeartbeats 1000000 in
theorem c_MDeleteAt {c : Ck} {d : Int} (hd : d ≤ 128) {xs : List IV} {sp : Option PA} {n cap : Nat} (hx : Rdr c (sp, n, cap) LT xs) (hxl : xs.length ≤ 2147483647) {bs : List Int} {bp : Option PA} {bn bc : Nat} (hb : Rdr c (bp, bn, bc) LN bs) (hbl : bs.length ≤ 2147483648) {G : PA → Prop} (hG : Star [c] h G) :
    HT Try.prog fn_impl_MDeleteAt [.c (.int .i64 d), .c (.sl sp n cap), .c (.sl bp bn bc)] true [.c .sl, .c .sl] h fun r h' => ∃ post, (∃ s s2 : SlT, r = (s, s2, ()) ∧ OwnL LF s (cutsF (treeO [] xs) bs) ∧ OwnL LT s2 (cutsR (treeO [] xs) bs) ∧
      post = [c, SlC s LF.sz (LF.flat (cutsF (treeO [] xs) bs)), SlC s2 LT.sz (LT.flat (cutsR (treeO [] xs) bs))]) ∧ St h G post h' := by
  apply hc_impl_MDeleteAt
  unfold M_impl_MDeleteAt
  have hn : bn = bs.length := hb.1
  have htl := treeO_len [] xs
  have hdg : 2 * MI.dgOf d + 1 ≤ 255 := by unfold MI.dgOf; split <;> (try split) <;> omega
  have S := St.start hG
  refine st_callT S [.ck c] (fun G hG => c_growMap (by omega) hx hxl hG) ?_
  rintro _ _ _ ⟨m, rfl, rfl⟩ S
  dsimp only [List.cons_append, List.nil_append] at S
  have S := sl_nil LF S
  refine w_mid' (some 0) (fun (y : SV [.c .sl]) h' => ∃ s : SlT, y = (s, ()) ∧ OwnL LF s (cutsF (treeO [] xs) bs) ∧ St h G [c, MI.MpC 0 (MI.dgOf d) (m, 0) (cutsR (treeO [] xs) bs), SlC s LF.sz (LF.flat (cutsF (treeO [] xs) bs))] h') ?_ ?_
  · refine w_lp (fun r y h' => ∃ (i : Nat) (s : SlT), y = ((i : Int), s, ()) ∧ i + r = bn ∧ OwnL LF s (cutsF (treeO [] xs) (bs.take i)) ∧ St h G [c, MI.MpC 0 (MI.dgOf d) (m, 0) (cutsR (treeO [] xs) (bs.take i)), SlC s LF.sz (LF.flat (cutsF (treeO [] xs) (bs.take i)))] h') bn rfl
      ⟨0, (none, 0, 0), rfl, by omega, ⟨rfl, Nat.le_refl _, .inl rfl⟩, S.only [.ck c, .mp (m, 0), .sl (none, 0, 0)]⟩ ?_
    clear S
    rintro r _ _ ⟨i, s, rfl, hi, hs, S⟩
    by_cases hlt : i < bn
    · obtain ⟨p, hp, hro⟩ := hb.ptr (by omega)
      dsimp only at hp
      subst hp
      have hxi := List.getElem?_eq_getElem (show i < bs.length by omega)
      have hsl : (cutsF (treeO [] xs) (bs.take i)).length = i := by rw [cutsF_len, List.length_take]; omega
      have hrl := cutsR_len (treeO [] xs) (bs.take i)
      obtain ⟨s1, s2, s3⟩ := s
      simp only [Int.toNat_natCast, toNat_succ, toNat_succ2, toNat_pred]
      refine w_true (lt_t (by (first | omega | ((try dsimp only [Sh.T, Sh1.T]); omega)))) ?_
      repeat (first | refine w_nonnil ?_ | refine ld_int S rfl ?_ | refine ld_some S rfl ?_ | refine ld_ptr S _ rfl ?_ | refine ld_sls S rfl ?_ | refine ld_nil S rfl ?_ | refine ld_bool S rfl ?_ | refine st_store S (lt_ble rfl) fun _ S => ?_ | refine st_alloc S fun _ _ S => ?_ | refine st_held S rfl ?_ | refine w_guard (by (first | exact inK64 (by omega) (by omega) | omega | (constructor <;> omega) | ((try dsimp only [Sh.T, Sh1.T]); first | exact inK64 (by omega) (by omega) | omega | exact ⟨by decide, inK64 (by omega) (by omega)⟩ | trivial))) ?_ | refine bd_n rfl ?_ | refine bd_e rfl ?_ | refine bd_r ?_ | refine bd_p ?_ | refine ln_r ?_ | refine ln_e ?_ | refine w_true (b := true) rfl ?_ | refine w_false (b := false) rfl ?_ | refine w_item (S.rdr hrd) (by assumption) ?_ | refine h_item (S.rdr hrd) (by assumption) ?_ | refine w_num (S.rdr hro) (by assumption) ?_ | refine ld_sln S rfl ?_ | refine ld_sl S _ _ _ rfl ?_)
      refine st_callV S [.mp (m, 0)] (args' := [.c (.addr (m, 0)), .c (.int .i64 bs[i])]) rfl (fun G hG => MI.c_DeleteAt hdg (by omega) hG) ?_
      rintro _ _ _ ⟨rfl, rfl⟩ S
      dsimp only [List.cons_append, List.nil_append] at S
      refine st_callT S [] (fun G hG => c_pair hG) ?_
      rintro _ _ _ ⟨rfl, rfl⟩ S
      rw [opR_f]
      dsimp only [List.cons_append, List.nil_append] at S
      refine st_alloc S fun n6 _ S => ?_
      refine st_apo (L := LF) (xs := cutsF (treeO [] xs) (bs.take i)) (y := MI.atK (cutsR (treeO [] xs) (bs.take i)) bs[i]) S hs rfl rfl (S.rsl (LF.flat [_]) 1 1 3 (fun i v h => by rw [Nat.zero_add]; exact h) rfl) ⟨by omega, by omega⟩ fun s' _ hs' S => ?_
      rw [← cutsF_snoc, ← take_snoc (by omega)] at hs'
      rw [← cutsF_snoc, ← cutsR_snoc, ← take_snoc (by omega)] at S
      refine w_guard (inK64 (by (first | omega | ((try dsimp only [Sh.T, Sh1.T]); omega))) (by (first | omega | ((try dsimp only [Sh.T, Sh1.T]); omega)))) ?_
      exact ln_n rfl (r - 1) ⟨i + 1, s', rfl, by omega, hs', S.only [.ck c, .mp (m, 0), .sl s']⟩ (by omega)
    · rw [List.take_of_length_le (by omega)] at hs S
      exact w_false (lt_f (by (first | omega | ((try dsimp only [Sh.T, Sh1.T]); omega)))) (ln_e (md_e rfl ⟨s, rfl, hs, S⟩))
  · rintro _ _ ⟨s, rfl, hs, S⟩
    have hrl := cutsR_len (treeO [] xs) bs
    refine st_callV S [.mp (m, 0)] (args' := [.c (.addr (m, 0))]) rfl (fun G hG => c_entries (by omega) hG) ?_
    rintro _ _ _ ⟨s2, rfl, hs2, rfl⟩ S
    dsimp only [List.cons_append, List.nil_append] at S
    exact rt_n rfl rfl ⟨_, ⟨s, s2, rfl, hs, hs2, rfl⟩, S.only [.ck c, .sl s, .sl s2]⟩
theorem atK_out {l : List IV} {i : Int} (h : i < 0 ∨ (l.length : Int) ≤ i) : MI.atK l i = none ∧ MI.cutK l i = l := by
  unfold MI.atK MI.cutK
  by_cases hi : i < 0
  · rw [if_pos hi, if_pos hi]; exact ⟨rfl, rfl⟩
  · rw [if_neg hi, if_neg hi]
    have : l.length ≤ i.toNat := by omega
    exact ⟨List.getElem?_eq_none this, List.eraseIdx_of_length_le this⟩
set_option maxHeartbeats 1000000 in
theorem c_GDeleteAt {c : Ck} {o : List Int} {op : Option PA} {on oc : Nat} (hr : Rdr c (op, on, oc) LN o) (hl : o.length ≤ 2147483647) {xs : List IV} {sp : Option PA} {n cap : Nat} (hx : Rdr c (sp, n, cap) LT xs) (hxl : xs.length ≤ 2147483647) {dg : Int} {nl : Bool} {bs : List Int} {bp : Option PA} {bn bc : Nat} (hb : Rdr c (bp, bn, bc) LN bs) (hbl : bs.length ≤ 2147483648) {G : PA → Prop} (hG : Star [c] h G) :
    HT Try.prog fn_spec_GDeleteAt [.agg [.sl op on oc, .int .i64 dg, .bool nl], .c (.sl sp n cap), .c (.sl bp bn bc)] true [.c .sl, .c .sl] h fun r h' => ∃ post, (∃ s s2 : SlT, r = (s, s2, ()) ∧ OwnL LF s (cutsF (treeO o xs) bs) ∧ OwnL LT s2 (cutsR (treeO o xs) bs) ∧
      post = [c, SlC s LF.sz (LF.flat (cutsF (treeO o xs) bs)), SlC s2 LT.sz (LT.flat (cutsR (treeO o xs) bs))]) ∧ St h G post h' := by
  apply hc_spec_GDeleteAt
  unfold M_spec_GDeleteAt
  have hn : bn = bs.length := hb.1
  have htl := treeO_len o xs
  refine st_alloc (St.start hG) fun n0 _ S => ?_
  refine ld_sl S op on oc rfl ?_
  refine st_callT S [.ck c] (fun G hG => c_Tree hr hl hx (by omega) hG) ?_
  rintro _ _ _ ⟨t, rfl, ht, rfl⟩ S
  dsimp only [List.cons_append, List.nil_append] at S
  have S := sl_nil LF S
  refine w_mid' (some 0) (fun (y : SV [.c .sl, .c .sl]) h' => ∃ s s2 : SlT, y = (s, s2, ()) ∧ OwnL LF s (cutsF (treeO o xs) bs) ∧ OwnL LT s2 (cutsR (treeO o xs) bs) ∧ St h G [c, SlC s LF.sz (LF.flat (cutsF (treeO o xs) bs)), SlC s2 LT.sz (LT.flat (cutsR (treeO o xs) bs))] h') ?_
    (fun _ _ ⟨s, s2, e, h1, h2, S⟩ => by subst e; exact rt_n rfl rfl ⟨_, ⟨s, s2, rfl, h1, h2, rfl⟩, S⟩)
  refine w_lp (fun r y h' => ∃ (i : Nat) (s s2 : SlT), y = ((i : Int), s, s2, ()) ∧ i + r = bn ∧ OwnL LF s (cutsF (treeO o xs) (bs.take i)) ∧ OwnL LT s2 (cutsR (treeO o xs) (bs.take i)) ∧ St h G [c, SlC s LF.sz (LF.flat (cutsF (treeO o xs) (bs.take i))), SlC s2 LT.sz (LT.flat (cutsR (treeO o xs) (bs.take i)))] h') bn rfl
      ⟨0, (none, 0, 0), t, rfl, by omega, ⟨rfl, Nat.le_refl _, .inl rfl⟩, ht, S.only [.ck c, .sl (none, 0, 0), .sl t]⟩ ?_
  clear S
  rintro r _ _ ⟨i, s, t, rfl, hi, hs, ht, S⟩
  by_cases hlt : i < bn
  · obtain ⟨p, hp, hro⟩ := hb.ptr (by omega)
    dsimp only at hp
    subst hp
    have hxi := List.getElem?_eq_getElem (show i < bs.length by omega)
    have hsl : (cutsF (treeO o xs) (bs.take i)).length = i := by rw [cutsF_len, List.length_take]; omega
    have hrl := cutsR_len (treeO o xs) (bs.take i)
    obtain ⟨s1, s2, s3⟩ := s
    obtain ⟨t1, t2, t3⟩ := t
    have htn : t2 = (cutsR (treeO o xs) (bs.take i)).length := ht.1
    simp only [Int.toNat_natCast, toNat_succ, toNat_succ2, toNat_pred]
    refine w_true (lt_t (by (first | omega | ((try dsimp only [Sh.T, Sh1.T]); omega)))) ?_
    refine w_nonnil (w_guard ⟨by (first | omega | ((try dsimp only [Sh.T, Sh1.T]); omega)), by (first | omega | ((try dsimp only [Sh.T, Sh1.T]); omega))⟩ ?_)
    refine w_num (S.rdr hro) hxi ?_
    refine st_alloc S fun n6 _ S => ?_
    by_cases ho : bs[i] < 0 ∨ ((cutsR (treeO o xs) (bs.take i)).length : Int) ≤ bs[i]
    · obtain ⟨e1, e2⟩ := atK_out ho
      refine st_callT S [.sl (t1, t2, t3)] (fun G hG => c_CutOut ht.rdr (by rcases ho with h | h; exact .inl h; exact .inr (by omega)) hG) ?_
      rintro _ _ _ ⟨rfl, rfl⟩ S
      dsimp only [List.cons_append, List.nil_append] at S
      refine st_store S (lt_ble rfl) fun _ S => ?_
      refine st_store S (lt_ble rfl) fun _ S => ?_
      refine st_store S (lt_ble rfl) fun _ S => ?_
      refine ld_int S rfl (ld_int S rfl (ld_bool S rfl ?_))
      refine st_alloc S fun n11 _ S => ?_
      refine st_apo (L := LF) (xs := cutsF (treeO o xs) (bs.take i)) (y := none) S hs rfl rfl (S.rsl (LF.flat [_]) 1 1 3 (fun i v h => by rw [Nat.zero_add]; exact h) rfl) ⟨by omega, by omega⟩ fun s' _ hs' S => ?_
      rw [← e1, ← cutsF_snoc, ← take_snoc (by omega)] at hs' S
      rw [← e2, ← cutsR_snoc, ← take_snoc (by omega)] at ht S
      refine w_guard (inK64 (by (first | omega | ((try dsimp only [Sh.T, Sh1.T]); omega))) (by (first | omega | ((try dsimp only [Sh.T, Sh1.T]); omega)))) ?_
      exact ln_n rfl (r - 1) ⟨i + 1, s', (t1, t2, t3), rfl, by omega, hs', ht, S.only [.ck c, .sl s', .sl (t1, t2, t3)]⟩ (by omega)
    · obtain ⟨j, hj⟩ : ∃ j : Nat, bs[i] = (j : Int) := ⟨bs[i].toNat, by omega⟩
      rw [hj] at ho ⊢
      have hjx := List.getElem?_eq_getElem (show j < (cutsR (treeO o xs) (bs.take i)).length by omega)
      refine st_callT S [.sl (t1, t2, t3)] (fun G hG => c_CutIn ht.rdr (by omega) hjx hG) ?_
      rintro _ _ _ ⟨t', rfl, ht', rfl⟩ S
      dsimp only [List.cons_append, List.nil_append] at S
      have e1 : MI.atK (cutsR (treeO o xs) (bs.take i)) bs[i] = some (cutsR (treeO o xs) (bs.take i))[j] := by
        unfold MI.atK; rw [hj, if_neg (by omega), Int.toNat_natCast, hjx]
      have e2 : MI.cutK (cutsR (treeO o xs) (bs.take i)) bs[i] = (cutsR (treeO o xs) (bs.take i)).eraseIdx j := by
        unfold MI.cutK; rw [hj, if_neg (by omega), Int.toNat_natCast]
      refine st_store S (lt_ble rfl) fun _ S => ?_
      refine st_store S (lt_ble rfl) fun _ S => ?_
      refine st_store S (lt_ble rfl) fun _ S => ?_
      refine ld_int S rfl (ld_int S rfl (ld_bool S rfl ?_))
      refine st_alloc S fun n11 _ S => ?_
      refine st_apo (L := LF) (xs := cutsF (treeO o xs) (bs.take i)) (y := some (cutsR (treeO o xs) (bs.take i))[j]) S hs rfl rfl (S.rsl (LF.flat [_]) 1 1 3 (fun i v h => by rw [Nat.zero_add]; exact h) rfl) ⟨by omega, by omega⟩ fun s' _ hs' S => ?_
      have S := S.only [.ck c, .sl s', .sl t']
      rw [← e1, ← cutsF_snoc, ← take_snoc (by omega)] at hs' S
      rw [← e2, ← cutsR_snoc, ← take_snoc (by omega)] at ht' S
      refine w_guard (inK64 (by (first | omega | ((try dsimp only [Sh.T, Sh1.T]); omega))) (by (first | omega | ((try dsimp only [Sh.T, Sh1.T]); omega)))) ?_
      exact ln_n rfl (r - 1) ⟨i + 1, s', t', rfl, by omega, hs', ht', S⟩ (by omega)
  · rw [List.take_of_length_le (by omega)] at hs ht S
    exact w_false (lt_f (by (first | omega | ((try dsimp only [Sh.T, Sh1.T]); omega)))) (ln_e (md_e rfl ⟨s, t, rfl, hs, ht, S⟩))
theorem c_mDeleteAt {c : Ck} {d : Int} (hd : d ≤ 128) {xs : List IV} {sp : Option PA} {n cap : Nat} (hx : Rdr c (sp, n, cap) LT xs) (hxl : xs.length ≤ 2147483647) {bs : List Int} {bp : Option PA} {bn bc : Nat} (hb : Rdr c (bp, bn, bc) LN bs) (hbl : bs.length ≤ 2147483647) {G : PA → Prop} (hG : Star [c] h G) :
    HT Try.prog fn_laws_mDeleteAt [.c (.int .i64 d), .c (.sl sp n cap), .c (.sl bp bn bc)] false [.c .bool] h fun r h' => ∃ post, (r = (true, ()) ∧ post = [c]) ∧ St h G post h' := by
  apply hc_laws_mDeleteAt
  unfold M_laws_mDeleteAt
  have htl := treeO_len [] xs
  have hrl := cutsR_len (treeO [] xs) bs
  have S := St.start hG
  refine st_callT S [.ck c] (fun G hG => c_MDeleteAt hd hx hxl hb (by omega) hG) ?_
  rintro _ _ _ ⟨s1, s2, rfl, h1, h2, rfl⟩ S
  dsimp only [List.cons_append, List.nil_append] at S
  refine st_callT S [.ck c] (fun G hG => c_GDeleteAt Rdr.nil (by decide) hx hxl hb (by omega) hG) ?_
  rintro _ _ _ ⟨t1, t2, rfl, g1, g2, rfl⟩ S
  dsimp only [List.cons_append, List.nil_append] at S
  refine w_bnd ?_
  have S := (S.ats [.sl s1, .sl t1])
  refine st_callT (l := StC [SlC s1 LF.sz (LF.flat (cutsF (treeO [] xs) bs)), SlC t1 LF.sz (LF.flat (cutsF (treeO [] xs) bs))] :: _) (St.st_in (m := [_, _]) S) [.ck (StC [SlC s1 LF.sz (LF.flat (cutsF (treeO [] xs) bs)), SlC t1 LF.sz (LF.flat (cutsF (treeO [] xs) bs))])] (fun G hG => c_EqualFound (Rdr.st (i := 0) rfl h1.rdr) (Rdr.st (i := 1) rfl g1.rdr) (by rw [cutsF_len]; omega) hG) ?_
  rintro _ _ _ ⟨rfl, rfl⟩ S
  dsimp only [List.cons_append, List.nil_append] at S
  have S := St.st_out S
  dsimp only [List.cons_append, List.nil_append] at S
  refine w_true rfl ?_
  have S := (S.ats [.sl s2, .sl t2])
  refine st_callT (l := StC [SlC s2 LT.sz (LT.flat (cutsR (treeO [] xs) bs)), SlC t2 LT.sz (LT.flat (cutsR (treeO [] xs) bs))] :: _) (St.st_in (m := [_, _]) S) [.ck (StC [SlC s2 LT.sz (LT.flat (cutsR (treeO [] xs) bs)), SlC t2 LT.sz (LT.flat (cutsR (treeO [] xs) bs))])] (fun G hG => c_EqualItems (Rdr.st (i := 0) rfl h2.rdr) (Rdr.st (i := 1) rfl g2.rdr) (by omega) hG) ?_
  rintro _ _ _ ⟨rfl, rfl⟩ S
  dsimp only [List.cons_append, List.nil_append] at S
  have S := St.st_out S
  dsimp only [List.cons_append, List.nil_append] at S
  exact bd_n rfl (rt_1 rfl ⟨_, ⟨by simp, rfl⟩, S.only [.ck c]⟩)
theorem c_exPlaces {G : PA → Prop} (hG : Star [] h G) : HT Try.prog fn_laws_exPlaces [] false [.c .sl] h fun r h' => ∃ post, (∃ n : Nat, r = ((some (n, 0), 5, 5), ()) ∧ post = [Ow (n, 0) (LN.flat [0, 2, 5, -1, 100]) 0]) ∧ St h G post h' := by
  apply hc_laws_exPlaces
  unfold M_laws_exPlaces
  refine st_alloc (St.start hG) fun n _ S => ?_
  exact rt_1 rfl ⟨_, ⟨n, rfl, rfl⟩, S⟩
theorem c_FnExactMDeleteAt {hI : H} {d : Int} {xs : List IV} {sp : Option PA} {n cap : Nat} (hx : Rdr (BaC hI) (sp, n, cap) LT xs) {ks : List Int} {kp : Option PA} {kn kc : Nat} (hk : Rdr (BaC hI) (kp, kn, kc) LN ks) {G : PA → Prop} (hG : Star [BaC hI] h G) :
    HT Try.prog fn_laws_FnExactMDeleteAt [.c (.int .i64 d), .c (.sl sp n cap), .c (.sl kp kn kc)] false [.c .bool] h fun r h' => ∃ post, (r = (true, ()) ∧ post = [BaC hI]) ∧ St h G post h' := by
  apply hc_laws_FnExactMDeleteAt
  unfold M_laws_FnExactMDeleteAt
  have hn : n = xs.length := hx.1
  have hkn : kn = ks.length := hk.1
  have S := St.start hG
  refine w_bnd ?_
  by_cases hbig : n > 2147483647
  · exact w_true (decide_eq_true (by omega)) (bd_n rfl (w_true rfl (rt_1 rfl ⟨_, ⟨rfl, rfl⟩, S⟩)))
  refine w_false (decide_eq_false (by omega)) (bd_n rfl ?_)
  by_cases hkbig : kn > 2147483647
  · exact w_true (decide_eq_true (by omega)) (rt_1 rfl ⟨_, ⟨rfl, rfl⟩, S⟩)
  · refine w_false (decide_eq_false (by omega)) (w_bnd ?_)
    refine st_callT S [] (fun G hG => c_exItems hG) ?_
    rintro _ _ _ ⟨ne, rfl, rfl⟩ S
    dsimp only [List.cons_append, List.nil_append] at S
    refine st_callT S [] (fun G hG => c_exPlaces hG) ?_
    rintro _ _ _ ⟨n2, rfl, rfl⟩ S
    dsimp only [List.cons_append, List.nil_append] at S
    have S := (S.ats [.ow (ne, 0), .ow (n2, 0)])
    refine st_callT (l := StC [Ow (ne, 0) (LT.flat exI) 0, Ow (n2, 0) (LN.flat [0, 2, 5, -1, 100]) 0] :: _) (St.st_in (m := [_, _]) S) [.ck (StC [Ow (ne, 0) (LT.flat exI) 0, Ow (n2, 0) (LN.flat [0, 2, 5, -1, 100]) 0])] (fun G hG => c_mDeleteAt (d := 2) (xs := exI) (bs := [0, 2, 5, -1, 100]) (by omega) (Rdr.st (i := 0) rfl (Rdr.ow (xs := exI) rfl)) (by decide) (Rdr.st (i := 1) rfl (Rdr.ow (xs := [0, 2, 5, -1, 100]) rfl)) (by decide) hG) ?_
    rintro _ _ _ ⟨rfl, rfl⟩ S
    dsimp only [List.cons_append, List.nil_append] at S
    have S := St.st_out S
    dsimp only [List.cons_append, List.nil_append] at S
    refine w_true rfl ?_
    refine st_callR S [] (fun G hG => c_Fits) ?_
    rintro _ rfl
    by_cases hf : d = 0 ∨ 2 ≤ d ∧ d ≤ 128
    · refine w_true (decide_eq_true hf) ?_
      by_cases h0 : d > 0
      · refine w_false (by rw [decide_eq_true h0]; rfl) ?_
        refine st_callT S [.ck (BaC hI)] (fun G hG => c_mDeleteAt (d := d) (by omega) hx (by omega) hk (by omega) hG) ?_
        rintro _ _ _ ⟨rfl, rfl⟩ S
        dsimp only [List.cons_append, List.nil_append] at S
        exact bd_n rfl (rt_1 rfl ⟨_, ⟨rfl, rfl⟩, S.only [.ck (BaC hI)]⟩)
      · exact w_true (by rw [decide_eq_false h0]; rfl) (bd_n rfl (rt_1 rfl ⟨_, ⟨rfl, rfl⟩, S.only [.ck (BaC hI)]⟩))
    · exact w_false (decide_eq_false hf) (bd_n rfl (rt_1 rfl ⟨_, ⟨rfl, rfl⟩, S.only [.ck (BaC hI)]⟩))
end
end Go.Proofs.Ytkhpbcckaenmcaa
