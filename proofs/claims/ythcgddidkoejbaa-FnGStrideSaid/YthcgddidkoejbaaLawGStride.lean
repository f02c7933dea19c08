/-
  The law FnGStride. Conditions: none.
-/
import Derived.Test.YthcgddidkoejbaaYht
import Derived.Test.YthcgddidkoejbaaSr
set_option linter.unusedVariables false
set_option linter.unusedSimpArgs false
set_option linter.unusedSectionVars false
set_option maxRecDepth 100000
namespace Go.Proofs.Ythcgddidkoejbaa
open Go

def M_laws_FnGStride (a0 : Int) (a1 : Int) (a2 : Int) : M :=
  .bind none (.call fn_spec_Fits [.c (.int .i64 (a0))] false [.c (.bool)] fun r0 =>
    .ite (!r0.fst)
    (.done .normal [.c (.tt)])
    (.ite (decide (a1 > 4000))
      (.done .normal [.c (.tt)])
      (.guard (InK IntKind.i64 a1) <|
        .guard (InK IntKind.i64 a2) <|
        .call fn_laws_coprime [.c (.int .i64 (a1)), .c (.int .i64 (a2))] false [.c (.bool)] fun r1 =>
        .done .normal [.c (.bool (!r1.fst))]))) [.c (.bool)] fun x2 =>
  .ite (x2.fst)
  (.call fn_laws_alive [] false [.c (.bool)] fun r3 =>
    .done .ret [.c (.bool (r3.fst))])
  (.alloc ty_impl_Make [.sl none (0) (0), .int .i64 (0), .ff] fun n4 =>
    .store (n4, 0) (.sl none (0) (0)) <|
    .store (n4, 1) (.int .i64 (a0)) <|
    .store (n4, 2) (.ff) <|
    .guard (InK IntKind.i64 a1) <|
    .guard (InK IntKind.i64 a2) <|
    .call fn_laws_stride [.c (.int .i64 (a1)), .c (.int .i64 (a2))] false [.c (.sl)] fun r5 =>
    .load (n4, 0) (.sl) fun s6 =>
    .load (n4, 1) (.int .i64) fun i7 =>
    .load (n4, 2) (.bool) fun b8 =>
    .call fn_impl_GItems [.agg [.sl (s6.fst) (s6.snd.fst) (s6.snd.snd), .int .i64 (i7), .bool (b8)], .c (.sl (r5.fst.fst) (r5.fst.snd.fst) (r5.fst.snd.snd))] false [.c (.sl)] fun r9 =>
    .bind none (.guard (InK IntKind.i64 a1) <|
      .ite ((↑r9.fst.snd.fst : Int) != a1)
      (.done .normal [.c (.tt)])
      (.load (n4, 0) (.sl) fun s10 =>
        .load (n4, 1) (.int .i64) fun i11 =>
        .load (n4, 2) (.bool) fun b12 =>
        .call fn_impl_GHeight [.agg [.sl (s10.fst) (s10.snd.fst) (s10.snd.snd), .int .i64 (i11), .bool (b12)], .c (.sl (r5.fst.fst) (r5.fst.snd.fst) (r5.fst.snd.snd))] false [.c (.int .i64)] fun r13 =>
        .guard (InK IntKind.i64 a1) <|
        .call fn_laws_height [.c (.int .i64 (a0)), .c (.int .i64 (r13.fst)), .c (.int .i64 (a1))] false [.c (.bool)] fun r14 =>
        .done .normal [.c (.bool (!r14.fst))])) [.c (.bool)] fun x15 =>
    .ite (x15.fst)
    (.done .ret [.c (.ff)])
    (.make ty_int 1 8 [.int .i64 (0)] (a1) (a1) fun s16 =>
      .bind (some 0) (.loop [.c (.int .i64)] [.c (.int .i64 (0))] fun y17 =>
          .ite (decide (y17.fst < (↑r9.fst.snd.fst : Int)))
          (.nonnil (r9.fst.fst) fun p18 =>
            .guard (((0 : Int) ≤ y17.fst) ∧ ((y17.fst : Int) < (↑r9.fst.snd.fst : Int))) <|
            .load (p18.fst, p18.snd + mulN (Int.toNat y17.fst) 2) (.int .i64) fun i19 =>
            .load (p18.fst, p18.snd + mulN (Int.toNat y17.fst) 2 + 1) (.int .i64) fun i20 =>
            .alloc ty_impl_Item [.int .i64 (0), .int .i64 (0)] fun n21 =>
            .store (n21, 0) (.int .i64 (i19)) <|
            .store (n21, 1) (.int .i64 (i20)) <|
            .load (n21, 0) (.int .i64) fun i22 =>
            .ite (i22 != y17.fst)
            (.done .ret [.c (.ff)])
            (.nonnil (s16.fst) fun p23 =>
              .guard (((0 : Int) ≤ y17.fst) ∧ ((y17.fst : Int) < (↑s16.snd.fst : Int))) <|
              .store (p23.fst, p23.snd + Int.toNat y17.fst) (.int .i64 (y17.fst)) <|
              .guard (InK IntKind.i64 (y17.fst + 1)) <|
              .done .normal [.c (.int .i64 (y17.fst + 1))]))
          (.done (.exit 0) [])) [] fun x24 =>
      .load (n4, 0) (.sl) fun s25 =>
      .load (n4, 1) (.int .i64) fun i26 =>
      .load (n4, 2) (.bool) fun b27 =>
      .call fn_impl_GGetAt [.agg [.sl (s25.fst) (s25.snd.fst) (s25.snd.snd), .int .i64 (i26), .bool (b27)], .c (.sl (r5.fst.fst) (r5.fst.snd.fst) (r5.fst.snd.snd)), .c (.sl (s16.fst) (s16.snd.fst) (s16.snd.snd))] false [.c (.sl)] fun r28 =>
      .bind (some 2) (.loop [.c (.int .i64)] [.c (.int .i64 (0))] fun y29 =>
          .ite (decide (y29.fst < (↑r28.fst.snd.fst : Int)))
          (.nonnil (r28.fst.fst) fun p30 =>
            .guard (((0 : Int) ≤ y29.fst) ∧ ((y29.fst : Int) < (↑r28.fst.snd.fst : Int))) <|
            .load (p30.fst, p30.snd + mulN (Int.toNat y29.fst) 3) (.int .i64) fun i31 =>
            .load (p30.fst, p30.snd + mulN (Int.toNat y29.fst) 3 + 1) (.int .i64) fun i32 =>
            .load (p30.fst, p30.snd + mulN (Int.toNat y29.fst) 3 + 2) (.bool) fun b33 =>
            .alloc ty_impl_Found [.int .i64 (0), .int .i64 (0), .ff] fun n34 =>
            .store (n34, 0) (.int .i64 (i31)) <|
            .store (n34, 1) (.int .i64 (i32)) <|
            .store (n34, 2) (.bool (b33)) <|
            .load (n34, 0) (.int .i64) fun i35 =>
            .load (n34, 1) (.int .i64) fun i36 =>
            .load (n34, 2) (.bool) fun b37 =>
            .nonnil (r9.fst.fst) fun p38 =>
            .guard (((0 : Int) ≤ y29.fst) ∧ ((y29.fst : Int) < (↑r9.fst.snd.fst : Int))) <|
            .load (p38.fst, p38.snd + mulN (Int.toNat y29.fst) 2) (.int .i64) fun i39 =>
            .load (p38.fst, p38.snd + mulN (Int.toNat y29.fst) 2 + 1) (.int .i64) fun i40 =>
            .ite (!(i35 == i39 && (i36 == i40 && true) && (b37 == true && true)))
            (.done .ret [.c (.ff)])
            (.guard (InK IntKind.i64 (y29.fst + 1)) <|
              .done .normal [.c (.int .i64 (y29.fst + 1))]))
          (.done (.exit 2) [])) [] fun x41 =>
      .call fn_laws_alive [] false [.c (.bool)] fun r42 =>
      .done .ret [.c (.bool (r42.fst))]))

theorem den_laws_FnGStride (a0 : Int) (a1 : Int) (a2 : Int) : denFn Try.prog Try.f11 [.c (.int .i64 a0), .c (.int .u16 a1), .c (.int .u16 a2)] = M_laws_FnGStride a0 a1 a2 := by kernel_rfl
theorem hc_laws_FnGStride (a0 : Int) (a1 : Int) (a2 : Int) {h : H} {R : Value → H → Prop} (hw : wp Try.prog (M_laws_FnGStride a0 a1 a2) (Ret R) h) : HC Try.prog fn_laws_FnGStride (List.map AV.val [.c (.int .i64 a0), .c (.int .u16 a1), .c (.int .u16 a2)]).toArray h R :=
  den_calls hmix Try.func11 (of_decide_eq_true rfl) (by rw [den_laws_FnGStride]; exact hw)


theorem num_set {i n : Nat} (h : i < n) : ((List.range i).map (fun j : Nat => Value.int .i64 (j : Int)) ++ List.replicate (n - i) (Value.int .i64 0)).set i (Value.int .i64 i) = (List.range (i + 1)).map (fun j : Nat => Value.int .i64 (j : Int)) ++ List.replicate (n - (i + 1)) (Value.int .i64 0) := by
  rw [show n - i = (n - (i + 1)) + 1 by omega, List.replicate_succ, List.set_append_right _ _ (by simp), List.length_map, List.length_range, Nat.sub_self, List.range_succ]
  simp
theorem LN_range (n : Nat) : LN.flat ((List.range n).map Int.ofNat) = (List.range n).map (fun j : Nat => Value.int .i64 (j : Int)) := by
  induction n with
  | zero => rfl
  | succ n ih => rw [List.range_succ, List.map_append, LN.flat_append, ih, List.map_append]; rfl
theorem made_num (n : Nat) : (madeCells (List.map Cell.val [Cell.int .i64 0]).toArray (n * 1)).toList = List.replicate n (Value.int .i64 0) := by
  simp [madeCells, Nat.mod_one, Cell.val, List.map_const']
section
variable {h : H}
set_option maxHeartbeats 4000000 in
theorem c_FnGStride {d : Int} {n s : Nat} (hnm : n ≤ 65535) (hs : s ≤ 65535) {hI : H} {G : PA → Prop} (hG : Star [BaC hI] h G) :
    HT Try.prog fn_laws_FnGStride [.c (.int .i64 d), .c (.int .u16 n), .c (.int .u16 s)] false [.c .bool] h fun r h' => ∃ post, (r = (true, ()) ∧ post = [BaC hI]) ∧ St h G post h' := by
  apply hc_laws_FnGStride
  unfold M_laws_FnGStride
  have S := St.start hG
  refine w_mid' none (fun (y : SV [.c .bool]) h' => (y = (true, ()) ∨ y = (false, ()) ∧ (d = 0 ∨ 2 ≤ d ∧ d ≤ 128) ∧ n ≤ 4000 ∧ ∃ x y : Int, x * n + y * s = 1) ∧ St h G [BaC hI] h') ?_ ?_
  · refine w_callT c_Fits ?_
    rintro _ _ ⟨rfl, rfl⟩
    by_cases hf : d = 0 ∨ 2 ≤ d ∧ d ≤ 128
    · refine w_false (by rw [decide_eq_true hf]; rfl) ?_
      by_cases hn : n > 4000
      · exact w_true (decide_eq_true (by omega)) (md_n rfl ⟨.inl rfl, S⟩)
      · refine w_false (decide_eq_false (by omega)) (w_guard (inK64 (by (first | omega | ((try dsimp only [Sh.T, Sh1.T]); omega))) (by (first | omega | ((try dsimp only [Sh.T, Sh1.T]); omega)))) (w_guard (inK64 (by (first | omega | ((try dsimp only [Sh.T, Sh1.T]); omega))) (by (first | omega | ((try dsimp only [Sh.T, Sh1.T]); omega)))) ?_))
        refine w_callT (c_coprime (by omega) (by omega)) ?_
        rintro _ _ ⟨⟨e, rfl, he⟩, rfl⟩
        cases e with
        | true => exact md_n rfl ⟨.inr ⟨rfl, hf, by omega, he rfl⟩, S⟩
        | false => exact md_n rfl ⟨.inl rfl, S⟩
    · exact w_true (by rw [decide_eq_false hf]; rfl) (md_n rfl ⟨.inl rfl, S⟩)
  clear S
  rintro _ h1 ⟨rfl | ⟨rfl, hf, hn, x, y, hc⟩, S⟩
  · refine w_true rfl ?_
    (refine st_callT S [] (fun G hG => c_alive hG) ?_; rintro _ _ _ ⟨rfl, rfl⟩ S; dsimp only [List.cons_append, List.nil_append] at S)
    exact rt_1 rfl ⟨_, ⟨rfl, rfl⟩, S.only [.ck (BaC hI)]⟩
  refine w_false rfl ?_
  have htr := stride_tree_len hc
  refine st_alloc S fun n4 _ S => ?_
  refine st_store S (lt_ble rfl) fun _ S => ?_
  refine st_store S (lt_ble rfl) fun _ S => ?_
  refine st_store S (lt_ble rfl) fun _ S => ?_
  have S := S.re (n4, 0) (List.map Cell.val [.sl none 0 0, .int .i64 d, .bool false]) 0 rfl rfl rfl
  refine w_guard (inK64 (by (first | omega | ((try dsimp only [Sh.T, Sh1.T]); omega))) (by (first | omega | ((try dsimp only [Sh.T, Sh1.T]); omega)))) (w_guard (inK64 (by (first | omega | ((try dsimp only [Sh.T, Sh1.T]); omega))) (by (first | omega | ((try dsimp only [Sh.T, Sh1.T]); omega)))) ?_)
  refine st_callT S [] (fun G hG => c_stride hn hs hG) ?_
  rintro _ _ _ ⟨⟨sp, sn, sc⟩, rfl, hsp, rfl⟩ S
  dsimp only [List.cons_append, List.nil_append] at S
  have hsl := strideO_len n s
  refine ld_sl S none 0 0 rfl (ld_int S rfl (ld_bool S rfl ?_))
  refine st_callT S [.sl (sp, sn, sc)] (fun G hG => c_GItems (o := []) Rdr.nil (by decide) (by omega) hsp.rdr (by omega) hG) ?_
  rintro _ _ _ ⟨⟨ip, m, ic⟩, rfl, hi, rfl⟩ S
  dsimp only [List.cons_append, List.nil_append] at S
  have hm : m = n := by have := hi.1; rw [htr] at this; exact this
  refine w_mid' none (fun (y : SV [.c .bool]) h' => y = (false, ()) ∧ St h G [Ow (n4, 0) (List.map Cell.val [.sl none 0 0, .int .i64 d, .bool false]) 0, SlC (sp, sn, sc) LT.sz (LT.flat (strideO n s)), SlC (ip, m, ic) LT.sz (LT.flat (treeO [] (strideO n s))), BaC hI] h') ?_ ?_
  · refine w_guard (inK64 (by (first | omega | ((try dsimp only [Sh.T, Sh1.T]); omega))) (by (first | omega | ((try dsimp only [Sh.T, Sh1.T]); omega)))) (w_false (by rw [hm]; simp) ?_)
    refine ld_sl S none 0 0 rfl (ld_int S rfl (ld_bool S rfl ?_))
    refine st_callT S [.sl (sp, sn, sc)] (fun G hG => c_GHeight (o := []) Rdr.nil (by decide) (by omega) hsp.rdr (by omega) hG) ?_
    rintro _ _ _ ⟨⟨k, rfl, hk⟩, rfl⟩ S
    dsimp only [List.cons_append, List.nil_append] at S
    rw [htr] at hk
    refine w_guard (inK64 (by (first | omega | ((try dsimp only [Sh.T, Sh1.T]); omega))) (by (first | omega | ((try dsimp only [Sh.T, Sh1.T]); omega)))) ?_
    refine w_callT (c_height hf hk (by omega)) ?_
    rintro _ _ ⟨rfl, rfl⟩
    exact md_n rfl ⟨rfl, S.ats [.ow (n4, 0), .sl (sp, sn, sc), .sl (ip, m, ic), .ck (BaC hI)]⟩
  clear S
  rintro _ _ ⟨rfl, S⟩
  refine w_false rfl ?_
  refine st_make S rfl (by (first | omega | ((try dsimp only [Sh.T, Sh1.T]); omega))) (by (first | omega | ((try dsimp only [Sh.T, Sh1.T]); omega))) (by (first | omega | ((try dsimp only [Sh.T, Sh1.T]); omega))) (by (first | omega | ((try dsimp only [Sh.T, Sh1.T]); omega))) fun n5 _ S => ?_
  have e1 : ((n : Int).toNat) = n := by omega
  dsimp only
  rw [e1] at S ⊢
  rw [made_num] at S
  obtain ⟨p, n', c', e2, _, _, S⟩ := S.open_sl rfl
  cases e2
  rw [Nat.sub_self, Nat.zero_mul] at S
  refine w_mid' (some 0) (fun _ h' => St h G [Ow (n5, 0) (LN.flat ((List.range n).map Int.ofNat)) 0, Ow (n4, 0) (List.map Cell.val [.sl none 0 0, .int .i64 d, .bool false]) 0, SlC (sp, sn, sc) LT.sz (LT.flat (strideO n s)), SlC (ip, m, ic) LT.sz (LT.flat (treeO [] (strideO n s))), BaC hI] h') ?_ ?_
  · refine w_lp (fun r y h' => ∃ i : Nat, y = ((i : Int), ()) ∧ i + r = n ∧ St h G [Ow (n5, 0) ((List.range i).map (fun j : Nat => Value.int .i64 (j : Int)) ++ List.replicate (n - i) (Value.int .i64 0)) 0, Ow (n4, 0) (List.map Cell.val [.sl none 0 0, .int .i64 d, .bool false]) 0, SlC (sp, sn, sc) LT.sz (LT.flat (strideO n s)), SlC (ip, m, ic) LT.sz (LT.flat (treeO [] (strideO n s))), BaC hI] h') n rfl ⟨0, rfl, by omega, by simpa using S⟩ ?_
    clear S
    rintro r _ _ ⟨i, rfl, hi2, S⟩
    by_cases hlt : i < n
    · obtain ⟨q, hq, hir⟩ := hi.rdr.ptr (by omega)
      dsimp only at hq
      subst hq
      obtain ⟨v, hv⟩ := stride_get hc hlt
      refine w_true (lt_t (by (first | omega | ((try dsimp only [Sh.T, Sh1.T]); omega)))) (w_nonnil (w_guard ⟨by (first | omega | ((try dsimp only [Sh.T, Sh1.T]); omega)), by (first | omega | ((try dsimp only [Sh.T, Sh1.T]); omega))⟩ ?_))
      simp only [Int.toNat_natCast, toNat_succ, toNat_succ2, toNat_pred]
      refine w_item (S.rdr hir) hv ?_
      refine st_alloc S fun n21 _ S => ?_
      refine st_store S (lt_ble rfl) fun _ S => ?_
      refine st_store S (lt_ble rfl) fun _ S => ?_
      refine ld_int S rfl (w_false (by simp) (w_nonnil (w_guard ⟨by (first | omega | ((try dsimp only [Sh.T, Sh1.T]); omega)), by (first | omega | ((try dsimp only [Sh.T, Sh1.T]); omega))⟩ ?_)))
      simp only [Int.toNat_natCast, toNat_succ, toNat_succ2, toNat_pred]
      have S := S.only [.ow (n5, 0), .ow (n4, 0), .sl (sp, sn, sc), .sl (some q, m, ic), .ck (BaC hI)]
      refine st_store S (by simp; omega) fun _ S => ?_
      have S := S.re (n5, 0) ((List.range (i + 1)).map (fun j : Nat => Value.int .i64 (j : Int)) ++ List.replicate (n - (i + 1)) (Value.int .i64 0)) 0 rfl (by rw [Nat.zero_add]; exact num_set hlt) rfl
      refine w_guard (inK64 (by (first | omega | ((try dsimp only [Sh.T, Sh1.T]); omega))) (by (first | omega | ((try dsimp only [Sh.T, Sh1.T]); omega)))) ?_
      exact ln_n rfl (r - 1) ⟨i + 1, rfl, by omega, S⟩ (by omega)
    · obtain rfl : i = n := by omega
      refine w_false (lt_f (by (first | omega | ((try dsimp only [Sh.T, Sh1.T]); omega)))) (ln_e (md_e rfl ?_))
      have S := S.re (n5, 0) (LN.flat ((List.range i).map Int.ofNat)) 0 rfl (by rw [Nat.sub_self, LN_range]; simp) rfl
      exact S
  clear S
  rintro _ _ S
  have hb : Rdr (Ow (n5, 0) (LN.flat ((List.range n).map Int.ofNat)) 0) (some (n5, 0), n, n) LN ((List.range n).map Int.ofNat) := Rdr.ow (by simp)
  have hal := atsF_len (treeO [] (strideO n s)) ((List.range n).map Int.ofNat)
  refine ld_sl S none 0 0 rfl (ld_int S rfl (ld_bool S rfl ?_))
  refine st_callT S [.sl (sp, sn, sc), .ow (n5, 0)] (fun G hG => c_GGetAtI (o := []) Rdr.nil (by decide) (by omega) hsp.rdr (by omega) hb (by simp; omega) hG) ?_
  rintro _ _ _ ⟨⟨fp, fn, fc⟩, rfl, hf2, rfl⟩ S
  dsimp only [List.cons_append, List.nil_append] at S
  have hfn : fn = n := by have := hf2.1; rw [hal] at this; simpa using this
  refine w_mid' (some 2) (fun _ h' => St h G [BaC hI] h') ?_ ?_
  · refine w_lp (fun r y h' => ∃ i : Nat, y = ((i : Int), ()) ∧ i + r = fn ∧ St h G [SlC (fp, fn, fc) LF.sz (LF.flat (atsF (treeO [] (strideO n s)) ((List.range n).map Int.ofNat))), SlC (ip, m, ic) LT.sz (LT.flat (treeO [] (strideO n s))), BaC hI] h') fn rfl ⟨0, rfl, by omega, S.only [.sl (fp, fn, fc), .sl (ip, m, ic), .ck (BaC hI)]⟩ ?_
    clear S
    rintro r _ _ ⟨i, rfl, hi2, S⟩
    by_cases hlt : i < fn
    · obtain ⟨p, hp, hfr⟩ := hf2.rdr.ptr (by rw [hal]; simp; omega)
      dsimp only at hp
      subst hp
      obtain ⟨q, hq, hir⟩ := hi.rdr.ptr (by omega)
      dsimp only at hq
      subst hq
      obtain ⟨v, hv⟩ := stride_get hc (show i < n by omega)
      have hfi : (atsF (treeO [] (strideO n s)) ((List.range n).map Int.ofNat))[i]? = some (some ((i : Int), v)) := by
        rw [atsF, List.getElem?_map, List.getElem?_map, List.getElem?_range (by omega)]
        show some (atO _ (i : Int)) = _
        unfold atO; rw [if_neg (by omega), Int.toNat_natCast, hv]
      refine w_true (lt_t (by (first | omega | ((try dsimp only [Sh.T, Sh1.T]); omega)))) (w_nonnil (w_guard ⟨by (first | omega | ((try dsimp only [Sh.T, Sh1.T]); omega)), by (first | omega | ((try dsimp only [Sh.T, Sh1.T]); omega))⟩ ?_))
      simp only [Int.toNat_natCast, toNat_succ, toNat_succ2, toNat_pred]
      refine w_fnd (S.rdr hfr) hfi ?_
      refine st_alloc S fun n34 _ S => ?_
      refine st_store S (lt_ble rfl) fun _ S => ?_
      refine st_store S (lt_ble rfl) fun _ S => ?_
      refine st_store S (lt_ble rfl) fun _ S => ?_
      refine ld_int S rfl (ld_int S rfl (ld_bool S rfl (w_nonnil (w_guard ⟨by (first | omega | ((try dsimp only [Sh.T, Sh1.T]); omega)), by (first | omega | ((try dsimp only [Sh.T, Sh1.T]); omega))⟩ ?_))))
      simp only [Int.toNat_natCast, toNat_succ, toNat_succ2, toNat_pred]
      refine w_item (S.rdr hir) hv (w_false (by simp) ?_)
      refine w_guard (inK64 (by (first | omega | ((try dsimp only [Sh.T, Sh1.T]); omega))) (by (first | omega | ((try dsimp only [Sh.T, Sh1.T]); omega)))) ?_
      exact ln_n rfl (r - 1) ⟨i + 1, rfl, by omega, S.only [.sl (some p, fn, fc), .sl (some q, m, ic), .ck (BaC hI)]⟩ (by omega)
    · exact w_false (lt_f (by (first | omega | ((try dsimp only [Sh.T, Sh1.T]); omega)))) (ln_e (md_e rfl (S.only [.ck (BaC hI)])))
  clear S
  rintro _ _ S
  (refine st_callT S [] (fun G hG => c_alive hG) ?_; rintro _ _ _ ⟨rfl, rfl⟩ S; dsimp only [List.cons_append, List.nil_append] at S)
  exact rt_1 rfl ⟨_, ⟨rfl, rfl⟩, S⟩
end
end Go.Proofs.Ythcgddidkoejbaa
