/-
  The law FnMSorted. Conditions: none.
-/
import Derived.Test.YtkhpbcckaenmcaaLawMValues
import Derived.Test.YtkhpbcckaenmcaaVkmi
import Derived.Test.YtkhpbcckaenmcaaPl
import Derived.Test.YtkhpbcckaenmcaaTk
set_option linter.unusedVariables false
set_option linter.unusedSimpArgs false
set_option linter.unusedSectionVars false
set_option maxRecDepth 100000
namespace Go.Proofs.Ytkhpbcckaenmcaa
open Go

def M_impl_MKeys (a0 : Int) (a1p : Option PA) (a1l : Nat) (a1c : Nat) : M :=
  .call fn_impl_growMap [.c (.int .i64 (a0)), .c (.sl (a1p) (a1l) (a1c))] false [.c (.ptr)] fun r0 =>
  .call fn_mi_Keys [.c (.ptr (r0.fst))] false [.c (.sl)] fun r1 =>
  .done .ret [.c (.sl (r1.fst.fst) (r1.fst.snd.fst) (r1.fst.snd.snd))]

theorem den_impl_MKeys (a0 : Int) (a1p : Option PA) (a1l : Nat) (a1c : Nat) : denFn Try.prog Try.f22 [.c (.int .i64 a0), .c (.sl a1p a1l a1c)] = M_impl_MKeys a0 a1p a1l a1c := by kernel_rfl
theorem hc_impl_MKeys (a0 : Int) (a1p : Option PA) (a1l : Nat) (a1c : Nat) {h : H} {R : Value → H → Prop} (hw : wp Try.prog (M_impl_MKeys a0 a1p a1l a1c) (Ret R) h) : HC Try.prog fn_impl_MKeys (List.map AV.val [.c (.int .i64 a0), .c (.sl a1p a1l a1c)]).toArray h R :=
  den_calls hmix Try.func22 (of_decide_eq_true rfl) (by rw [den_impl_MKeys]; exact hw)

def M_laws_fit (a0 : Int) : M :=
  .bind none (.ite (decide (a0 > 0))
    (.call fn_spec_Fits [.c (.int .i64 (a0))] false [.c (.bool)] fun r0 =>
      .done .normal [.c (.bool (r0.fst))])
    (.done .normal [.c (.ff)])) [.c (.bool)] fun x1 =>
  .done .ret [.c (.bool (x1.fst))]

theorem den_laws_fit (a0 : Int) : denFn Try.prog Try.f20 [.c (.int .i64 a0)] = M_laws_fit a0 := by kernel_rfl
theorem hc_laws_fit (a0 : Int) {h : H} {R : Value → H → Prop} (hw : wp Try.prog (M_laws_fit a0) (Ret R) h) : HC Try.prog fn_laws_fit (List.map AV.val [.c (.int .i64 a0)]).toArray h R :=
  den_calls hmix Try.func20 (of_decide_eq_true rfl) (by rw [den_laws_fit]; exact hw)

def M_laws_aliveM  : M :=
  .call fn_laws_exItems [] false [.c (.sl)] fun r0 =>
  .guard (((0 : Int) ≤ 3) ∧ ((3 : Int) ≤ (↑r0.fst.snd.snd : Int))) <|
  .call fn_impl_MKeys [.c (.int .i64 (2)), .c (.sl (slBase r0.fst.fst r0.fst.snd.snd 0 2) (3) (r0.fst.snd.snd - 0))] false [.c (.sl)] fun r1 =>
  .done .ret [.c (.bool ((↑r1.fst.snd.fst : Int) == 3))]

theorem den_laws_aliveM  : denFn Try.prog Try.f21 [] = M_laws_aliveM  := by kernel_rfl
theorem hc_laws_aliveM  {h : H} {R : Value → H → Prop} (hw : wp Try.prog (M_laws_aliveM ) (Ret R) h) : HC Try.prog fn_laws_aliveM (List.map AV.val []).toArray h R :=
  den_calls hmix Try.func21 (of_decide_eq_true rfl) (by rw [den_laws_aliveM]; exact hw)

def M_slices_Index_int_int (a0p : Option PA) (a0l : Nat) (a0c : Nat) (a1 : Int) : M :=
  .bind (some 0) (.loop [.c (.int .i64)] [.c (.int .i64 (0))] fun y0 =>
      .ite (decide (y0.fst < (↑a0l : Int)))
      (.nonnil (a0p) fun p1 =>
        .guard (((0 : Int) ≤ y0.fst) ∧ ((y0.fst : Int) < (↑a0l : Int))) <|
        .load (p1.fst, p1.snd + Int.toNat y0.fst) (.int .i64) fun i2 =>
        .ite (a1 == i2)
        (.done .ret [.c (.int .i64 (y0.fst))])
        (.guard (InK IntKind.i64 (y0.fst + 1)) <|
          .done .normal [.c (.int .i64 (y0.fst + 1))]))
      (.done (.exit 0) [])) [] fun x3 =>
  .done .ret [.c (.int .i64 (-1))]

theorem den_slices_Index_int_int (a0p : Option PA) (a0l : Nat) (a0c : Nat) (a1 : Int) : denFn Try.prog Try.f39 [.c (.sl a0p a0l a0c), .c (.int .i64 a1)] = M_slices_Index_int_int a0p a0l a0c a1 := by kernel_rfl
theorem hc_slices_Index_int_int (a0p : Option PA) (a0l : Nat) (a0c : Nat) (a1 : Int) {h : H} {R : Value → H → Prop} (hw : wp Try.prog (M_slices_Index_int_int a0p a0l a0c a1) (Ret R) h) : HC Try.prog fn_slices_Index_int_int (List.map AV.val [.c (.sl a0p a0l a0c), .c (.int .i64 a1)]).toArray h R :=
  den_calls hmix Try.func39 (of_decide_eq_true rfl) (by rw [den_slices_Index_int_int]; exact hw)

def M_slices_Contains_int_int (a0p : Option PA) (a0l : Nat) (a0c : Nat) (a1 : Int) : M :=
  .call fn_slices_Index_int_int [.c (.sl (a0p) (a0l) (a0c)), .c (.int .i64 (a1))] false [.c (.int .i64)] fun r0 =>
  .done .ret [.c (.bool (decide (r0.fst ≥ 0)))]

theorem den_slices_Contains_int_int (a0p : Option PA) (a0l : Nat) (a0c : Nat) (a1 : Int) : denFn Try.prog Try.f24 [.c (.sl a0p a0l a0c), .c (.int .i64 a1)] = M_slices_Contains_int_int a0p a0l a0c a1 := by kernel_rfl
theorem hc_slices_Contains_int_int (a0p : Option PA) (a0l : Nat) (a0c : Nat) (a1 : Int) {h : H} {R : Value → H → Prop} (hw : wp Try.prog (M_slices_Contains_int_int a0p a0l a0c a1) (Ret R) h) : HC Try.prog fn_slices_Contains_int_int (List.map AV.val [.c (.sl a0p a0l a0c), .c (.int .i64 a1)]).toArray h R :=
  den_calls hmix Try.func24 (of_decide_eq_true rfl) (by rw [den_slices_Contains_int_int]; exact hw)

def M_laws_FnMSorted (a0 : Int) (a1p : Option PA) (a1l : Nat) (a1c : Nat) : M :=
  .ite (decide ((↑a1l : Int) > 2147483647))
  (.done .ret [.c (.tt)])
  (.call fn_laws_fit [.c (.int .i64 (a0))] false [.c (.bool)] fun r0 =>
    .ite (!r0.fst)
    (.call fn_laws_aliveM [] false [.c (.bool)] fun r1 =>
      .done .ret [.c (.bool (r1.fst))])
    (.call fn_impl_MKeys [.c (.int .i64 (a0)), .c (.sl (a1p) (a1l) (a1c))] false [.c (.sl)] fun r2 =>
      .call fn_impl_MValues [.c (.int .i64 (a0)), .c (.sl (a1p) (a1l) (a1c))] false [.c (.sl)] fun r3 =>
      .ite ((↑r2.fst.snd.fst : Int) != (↑r3.fst.snd.fst : Int))
      (.done .ret [.c (.ff)])
      (.bind (some 0) (.loop [.c (.int .i64)] [.c (.int .i64 (0))] fun y4 =>
            .ite (decide (y4.fst < (↑r2.fst.snd.fst : Int)))
            (.nonnil (r2.fst.fst) fun p5 =>
              .guard (((0 : Int) ≤ y4.fst) ∧ ((y4.fst : Int) < (↑r2.fst.snd.fst : Int))) <|
              .load (p5.fst, p5.snd + Int.toNat y4.fst) (.int .i64) fun i6 =>
              .bind (some 2) (.loop [.c (.int .i64), .c (.bool), .c (.int .i64)] [.c (.int .i64 (0)), .c (.ff), .c (.int .i64 (0))] fun y7 =>
                  .ite (decide (y7.fst < (↑a1l : Int)))
                  (.nonnil (a1p) fun p8 =>
                    .guard (((0 : Int) ≤ y7.fst) ∧ ((y7.fst : Int) < (↑a1l : Int))) <|
                    .load (p8.fst, p8.snd + mulN (Int.toNat y7.fst) 2) (.int .i64) fun i9 =>
                    .load (p8.fst, p8.snd + mulN (Int.toNat y7.fst) 2 + 1) (.int .i64) fun i10 =>
                    .alloc ty_impl_Item [.int .i64 (0), .int .i64 (0)] fun n11 =>
                    .store (n11, 0) (.int .i64 (i9)) <|
                    .store (n11, 1) (.int .i64 (i10)) <|
                    .load (n11, 0) (.int .i64) fun i12 =>
                    .bind none (.ite (i12 == i6)
                      (.load (n11, 1) (.int .i64) fun i13 =>
                        .done .normal [.c (.tt), .c (.int .i64 (i13))])
                      (.done .normal [.c (.bool (y7.snd.fst)), .c (.int .i64 (y7.snd.snd.fst))])) [.c (.bool), .c (.int .i64)] fun x14 =>
                    .guard (InK IntKind.i64 (y7.fst + 1)) <|
                    .done .normal [.c (.int .i64 (y7.fst + 1)), .c (.bool (x14.fst)), .c (.int .i64 (x14.snd.fst))])
                  (.done (.exit 2) [.c (.bool (y7.snd.fst)), .c (.int .i64 (y7.snd.snd.fst))])) [.c (.bool), .c (.int .i64)] fun x15 =>
              .bind none (.ite (!x15.fst)
                (.done .normal [.c (.tt)])
                (.nonnil (r3.fst.fst) fun p16 =>
                  .guard (((0 : Int) ≤ y4.fst) ∧ ((y4.fst : Int) < (↑r3.fst.snd.fst : Int))) <|
                  .load (p16.fst, p16.snd + Int.toNat y4.fst) (.int .i64) fun i17 =>
                  .ite (x15.snd.fst != i17)
                  (.done .normal [.c (.tt)])
                  (.ite (decide (y4.fst > 0))
                    (.guard (InK IntKind.i64 (y4.fst - 1)) <|
                      .nonnil (r2.fst.fst) fun p18 =>
                      .guard (((0 : Int) ≤ y4.fst - 1) ∧ ((y4.fst - 1 : Int) < (↑r2.fst.snd.fst : Int))) <|
                      .load (p18.fst, p18.snd + (y4.fst - 1).toNat) (.int .i64) fun i19 =>
                      .done .normal [.c (.bool (decide (i19 ≥ i6)))])
                    (.done .normal [.c (.ff)])))) [.c (.bool)] fun x20 =>
              .ite (x20.fst)
              (.done .ret [.c (.ff)])
              (.guard (InK IntKind.i64 (y4.fst + 1)) <|
                .done .normal [.c (.int .i64 (y4.fst + 1))]))
            (.done (.exit 0) [])) [] fun x21 =>
        .bind (some 4) (.loop [.c (.int .i64)] [.c (.int .i64 (0))] fun y22 =>
            .ite (decide (y22.fst < (↑a1l : Int)))
            (.nonnil (a1p) fun p23 =>
              .guard (((0 : Int) ≤ y22.fst) ∧ ((y22.fst : Int) < (↑a1l : Int))) <|
              .load (p23.fst, p23.snd + mulN (Int.toNat y22.fst) 2) (.int .i64) fun i24 =>
              .load (p23.fst, p23.snd + mulN (Int.toNat y22.fst) 2 + 1) (.int .i64) fun i25 =>
              .alloc ty_impl_Item [.int .i64 (0), .int .i64 (0)] fun n26 =>
              .store (n26, 0) (.int .i64 (i24)) <|
              .store (n26, 1) (.int .i64 (i25)) <|
              .load (n26, 0) (.int .i64) fun i27 =>
              .call fn_slices_Contains_int_int [.c (.sl (r2.fst.fst) (r2.fst.snd.fst) (r2.fst.snd.snd)), .c (.int .i64 (i27))] false [.c (.bool)] fun r28 =>
              .ite (!r28.fst)
              (.done .ret [.c (.ff)])
              (.guard (InK IntKind.i64 (y22.fst + 1)) <|
                .done .normal [.c (.int .i64 (y22.fst + 1))]))
            (.done (.exit 4) [])) [] fun x29 =>
        .call fn_laws_aliveM [] false [.c (.bool)] fun r30 =>
        .done .ret [.c (.bool (r30.fst))])))

theorem den_laws_FnMSorted (a0 : Int) (a1p : Option PA) (a1l : Nat) (a1c : Nat) : denFn Try.prog Try.f7 [.c (.int .i64 a0), .c (.sl a1p a1l a1c)] = M_laws_FnMSorted a0 a1p a1l a1c := by kernel_rfl
theorem hc_laws_FnMSorted (a0 : Int) (a1p : Option PA) (a1l : Nat) (a1c : Nat) {h : H} {R : Value → H → Prop} (hw : wp Try.prog (M_laws_FnMSorted a0 a1p a1l a1c) (Ret R) h) : HC Try.prog fn_laws_FnMSorted (List.map AV.val [.c (.int .i64 a0), .c (.sl a1p a1l a1c)]).toArray h R :=
  den_calls hmix Try.func7 (of_decide_eq_true rfl) (by rw [den_laws_FnMSorted]; exact hw)


section
variable {h : H}
theorem c_MKeys {c : Ck} {d : Int} (hd : d ≤ 536870912) {xs : List IV} {sp : Option PA} {n cap : Nat} (hx : Rdr c (sp, n, cap) LT xs) (hxl : xs.length ≤ 2147483647) {G : PA → Prop} (hG : Star [c] h G) :
    HT Try.prog fn_impl_MKeys [.c (.int .i64 d), .c (.sl sp n cap)] false [.c .sl] h fun r h' => ∃ post, (∃ s : SlT, r = (s, ()) ∧ OwnL LN s (MI.kO (treeO [] xs)) ∧ post = [c, SlC s LN.sz (LN.flat (MI.kO (treeO [] xs)))]) ∧ St h G post h' := by
  apply hc_impl_MKeys
  unfold M_impl_MKeys
  have htl := treeO_len [] xs
  have S := St.start hG
  refine st_callT S [.ck c] (fun G hG => c_growMap hd hx hxl hG) ?_
  rintro _ _ _ ⟨m, rfl, rfl⟩ S
  dsimp only [List.cons_append, List.nil_append] at S
  refine st_callV S [.mp (m, 0)] (args' := [.c (.addr (m, 0))]) rfl (fun G hG => MI.c_Keys (by omega) hG) ?_
  rintro _ _ _ ⟨s, rfl, hs, rfl⟩ S
  dsimp only [List.cons_append, List.nil_append] at S
  exact rt_1 rfl ⟨_, ⟨s, rfl, hs, rfl⟩, S.only [.ck c, .sl s]⟩
theorem c_fit {d : Int} : HT Try.prog fn_laws_fit [.c (.int .i64 d)] false [.c .bool] h fun x h' => x = (decide (2 ≤ d ∧ d ≤ 128), ()) ∧ h' = h := by
  apply hc_laws_fit
  unfold M_laws_fit
  by_cases h0 : d > 0
  · refine w_bnd (w_true (decide_eq_true h0) (w_callT c_Fits ?_))
    rintro _ _ ⟨rfl, rfl⟩
    refine bd_n rfl (rt_1 rfl ⟨?_, rfl⟩)
    congr 1
    exact decide_eq_decide.2 ⟨fun h => by omega, fun h => .inr h⟩
  · refine w_bnd (w_false (decide_eq_false h0) (bd_n rfl (rt_1 rfl ⟨?_, rfl⟩)))
    rw [decide_eq_false (by omega)]
theorem c_aliveM {G : PA → Prop} (hG : Star [] h G) : HT Try.prog fn_laws_aliveM [] false [.c .bool] h fun r h' => ∃ post, (r = (true, ()) ∧ post = []) ∧ St h G post h' := by
  apply hc_laws_aliveM
  unfold M_laws_aliveM
  have S := St.start hG
  refine st_callT S [] (fun G hG => c_exItems hG) ?_
  rintro _ _ _ ⟨ne, rfl, rfl⟩ S
  dsimp only [List.cons_append, List.nil_append] at S
  refine w_guard ⟨by decide, by show (3 : Int) ≤ ((7 : Nat) : Int); decide⟩ ?_
  have hp := (Rdr.ow (L := LT) (xs := exI) (p := (ne, 0)) (n := 7) (k := 0) rfl).part 0 3 (by decide)
  refine st_callT S [.ow (ne, 0)] (fun G hG => c_MKeys (d := 2) (by omega) hp (by decide) hG) ?_
  rintro _ _ _ ⟨s, rfl, hs, rfl⟩ S
  dsimp only [List.cons_append, List.nil_append] at S
  have hl : s.2.1 = 3 := hs.1
  refine rt_1 rfl ⟨_, ⟨?_, rfl⟩, (S.dels [.ow (ne, 0), .sl s])⟩
  rw [hl]; rfl
theorem c_Index {c : Ck} {xs : List Int} {sp : Option PA} {n cap : Nat} {k : Int} (hx : Rdr c (sp, n, cap) LN xs) (hl : xs.length ≤ 4294967296) {G : PA → Prop} (hG : Star [c] h G) :
    HT Try.prog fn_slices_Index_int_int [.c (.sl sp n cap), .c (.int .i64 k)] false [.c (.int .i64)] h fun r h' => ∃ post, ((∃ i : Int, r = (i, ()) ∧ (k ∉ xs ∧ i = -1 ∨ ∃ j : Nat, i = j ∧ xs[j]? = some k)) ∧ post = [c]) ∧ St h G post h' := by
  apply hc_slices_Index_int_int
  unfold M_slices_Index_int_int
  have hn : n = xs.length := hx.1
  have S := St.start hG
  refine w_bnd (w_lp (fun r y h' => ∃ i : Nat, y = ((i : Int), ()) ∧ i + r = n ∧ k ∉ xs.take i ∧ St h G [c] h') n rfl ⟨0, rfl, by omega, by simp, S⟩ ?_)
  rintro r _ _ ⟨i, rfl, hi, he, S⟩
  by_cases hlt : i < n
  · obtain ⟨p, hp, hro⟩ := hx.ptr (by omega)
    dsimp only at hp
    subst hp
    have hxi := List.getElem?_eq_getElem (show i < xs.length by omega)
    simp only [Int.toNat_natCast, toNat_succ, toNat_succ2, toNat_pred]
    refine w_true (lt_t (by (first | omega | ((try dsimp only [Sh.T, Sh1.T]); omega)))) ?_
    refine w_nonnil (w_guard ⟨by (first | omega | ((try dsimp only [Sh.T, Sh1.T]); omega)), by (first | omega | ((try dsimp only [Sh.T, Sh1.T]); omega))⟩ (w_num (S.rdr hro) hxi ?_))
    by_cases hv : k = xs[i]
    · refine w_true (by simp [hv]) ?_
      exact ln_r (bd_r (rt_1 rfl ⟨_, ⟨⟨_, rfl, .inr ⟨i, rfl, by rw [hxi, hv]⟩⟩, rfl⟩, S⟩))
    · refine w_false (by simp [hv]) ?_
      repeat (first | refine w_nonnil ?_ | refine ld_int S rfl ?_ | refine ld_some S rfl ?_ | refine ld_ptr S _ rfl ?_ | refine ld_sls S rfl ?_ | refine ld_nil S rfl ?_ | refine ld_bool S rfl ?_ | refine st_store S (lt_ble rfl) fun _ S => ?_ | refine st_alloc S fun _ _ S => ?_ | refine st_held S rfl ?_ | refine w_guard (by (first | exact inK64 (by omega) (by omega) | omega | (constructor <;> omega) | ((try dsimp only [Sh.T, Sh1.T]); first | exact inK64 (by omega) (by omega) | omega | exact ⟨by decide, inK64 (by omega) (by omega)⟩ | trivial))) ?_ | refine bd_n rfl ?_ | refine bd_e rfl ?_ | refine bd_r ?_ | refine bd_p ?_ | refine ln_r ?_ | refine ln_e ?_ | refine w_true (b := true) rfl ?_ | refine w_false (b := false) rfl ?_ | refine w_item (S.rdr hrd) (by assumption) ?_ | refine h_item (S.rdr hrd) (by assumption) ?_ | refine w_num (S.rdr hro) (by assumption) ?_ | refine ld_sln S rfl ?_ | refine ld_sl S _ _ _ rfl ?_)
      exact ln_n rfl (r - 1) ⟨i + 1, rfl, by omega, by rw [take_snoc (by omega)]; simp only [List.mem_append, List.mem_singleton]; exact fun h => h.elim he hv, S⟩ (by omega)
  · refine w_false (lt_f (by (first | omega | ((try dsimp only [Sh.T, Sh1.T]); omega)))) (ln_e (bd_e rfl (rt_1 rfl ⟨_, ⟨⟨_, rfl, .inl ⟨?_, rfl⟩⟩, rfl⟩, S⟩)))
    rw [List.take_of_length_le (by omega)] at he
    exact he
theorem c_Contains {c : Ck} {xs : List Int} {sp : Option PA} {n cap : Nat} {k : Int} (hx : Rdr c (sp, n, cap) LN xs) (hl : xs.length ≤ 4294967296) {G : PA → Prop} (hG : Star [c] h G) :
    HT Try.prog fn_slices_Contains_int_int [.c (.sl sp n cap), .c (.int .i64 k)] false [.c .bool] h fun r h' => ∃ post, (r = (decide (k ∈ xs), ()) ∧ post = [c]) ∧ St h G post h' := by
  apply hc_slices_Contains_int_int
  unfold M_slices_Contains_int_int
  refine st_callT (St.start hG) [.ck c] (fun G hG => c_Index hx hl hG) ?_
  rintro _ _ _ ⟨⟨i, rfl, hi⟩, rfl⟩ S
  dsimp only [List.cons_append, List.nil_append] at S
  refine rt_1 rfl ⟨_, ⟨?_, rfl⟩, S⟩
  rcases hi with ⟨h1, rfl⟩ | ⟨j, rfl, hj⟩
  · rw [decide_eq_false h1]; rfl
  · rw [decide_eq_true (List.mem_of_getElem? hj)]
    show (decide ((j : Int) ≥ 0), ()) = _
    rw [decide_eq_true (show (j : Int) ≥ 0 by omega)]
set_option maxHeartbeats 2000000 in
theorem c_FnMSorted {hI : H} {d : Int} {xs : List IV} {sp : Option PA} {n cap : Nat} (hx : Rdr (BaC hI) (sp, n, cap) LT xs) {G : PA → Prop} (hG : Star [BaC hI] h G) :
    HT Try.prog fn_laws_FnMSorted [.c (.int .i64 d), .c (.sl sp n cap)] false [.c .bool] h fun r h' => ∃ post, (r = (true, ()) ∧ post = [BaC hI]) ∧ St h G post h' := by
  apply hc_laws_FnMSorted
  unfold M_laws_FnMSorted
  have hn : n = xs.length := hx.1
  have htl := treeO_len [] xs
  have S := St.start hG
  by_cases hbig : n > 2147483647
  · exact w_true (decide_eq_true (by omega)) (rt_1 rfl ⟨_, ⟨rfl, rfl⟩, S⟩)
  refine w_false (decide_eq_false (by omega)) ?_
  refine w_callT c_fit ?_
  rintro _ _ ⟨rfl, rfl⟩
  by_cases hf : 2 ≤ d ∧ d ≤ 128
  · refine w_false (by rw [decide_eq_true hf]; rfl) ?_
    refine st_callT S [.ck (BaC hI)] (fun G hG => c_MKeys (by omega) hx (by omega) hG) ?_
    rintro _ _ _ ⟨⟨kp, kn, kc⟩, rfl, hk, rfl⟩ S
    dsimp only [List.cons_append, List.nil_append] at S
    refine st_callT S [.ck (BaC hI)] (fun G hG => c_MValues (by omega) hx (by omega) hG) ?_
    rintro _ _ _ ⟨⟨vp, vn, vc⟩, rfl, hv, rfl⟩ S
    dsimp only [List.cons_append, List.nil_append] at S
    have hkn : kn = (treeO [] xs).length := by have := hk.1; rw [MI.kO_len] at this; exact this
    have hvn : vn = (treeO [] xs).length := by have := hv.1; rw [vO_len] at this; exact this
    refine w_false (by rw [hkn, hvn]; simp) ?_
    have S := S.ats [.ck (BaC hI), .sl (kp, kn, kc), .sl (vp, vn, vc)]
    refine w_bnd (w_lp (fun r y h' => ∃ i : Nat, y = ((i : Int), ()) ∧ i + r = kn ∧ St _ G [BaC hI, SlC (kp, kn, kc) LN.sz (LN.flat (MI.kO (treeO [] xs))), SlC (vp, vn, vc) LN.sz (LN.flat (vO (treeO [] xs)))] h') kn rfl ⟨0, rfl, by omega, S⟩ ?_)
    clear S
    rintro r _ _ ⟨i, rfl, hi, S⟩
    by_cases hlt : i < kn
    · obtain ⟨p, hp, hkr⟩ := hk.rdr.ptr (by rw [MI.kO_len]; omega)
      obtain ⟨q, hq, hvr⟩ := hv.rdr.ptr (by rw [vO_len]; omega)
      dsimp only at hp hq
      subst hp; subst hq
      obtain ⟨a, ha⟩ : ∃ a, (treeO [] xs)[i]? = some a := ⟨_, List.getElem?_eq_getElem (by omega)⟩
      have hka : (MI.kO (treeO [] xs))[i]? = some a.1 := by rw [MI.kO, List.getElem?_map, ha]; rfl
      have hva : (vO (treeO [] xs))[i]? = some a.2 := by rw [vO, List.getElem?_map, ha]; rfl
      have hla := (mem_tree xs a).1 (List.mem_of_getElem? ha)
      simp only [Int.toNat_natCast, toNat_succ, toNat_succ2, toNat_pred]
      refine w_true (lt_t (by (first | omega | ((try dsimp only [Sh.T, Sh1.T]); omega)))) ?_
      refine w_nonnil (w_guard ⟨by (first | omega | ((try dsimp only [Sh.T, Sh1.T]); omega)), by (first | omega | ((try dsimp only [Sh.T, Sh1.T]); omega))⟩ (w_num (S.rdr hkr) hka ?_))
      refine w_bnd (w_lp (fun r2 y h' => ∃ j : Nat, y = ((j : Int), (lastO (xs.take j) a.1).isSome, (lastO (xs.take j) a.1).getD 0, ()) ∧ j + r2 = n ∧ St _ G [BaC hI, SlC (some p, kn, kc) LN.sz (LN.flat (MI.kO (treeO [] xs))), SlC (some q, vn, vc) LN.sz (LN.flat (vO (treeO [] xs)))] h') n rfl ⟨0, rfl, by omega, S⟩ ?_)
      clear S
      rintro r2 _ _ ⟨j, rfl, hj, S⟩
      by_cases hjl : j < n
      · obtain ⟨p2, hp2, hrd⟩ := hx.ptr (by omega)
        dsimp only at hp2
        subst hp2
        have hxj := List.getElem?_eq_getElem (show j < xs.length by omega)
        simp only [Int.toNat_natCast, toNat_succ, toNat_succ2, toNat_pred]
        refine w_true (lt_t (by (first | omega | ((try dsimp only [Sh.T, Sh1.T]); omega)))) ?_
        repeat (first | refine w_nonnil ?_ | refine ld_int S rfl ?_ | refine ld_some S rfl ?_ | refine ld_ptr S _ rfl ?_ | refine ld_sls S rfl ?_ | refine ld_nil S rfl ?_ | refine ld_bool S rfl ?_ | refine st_store S (lt_ble rfl) fun _ S => ?_ | refine st_alloc S fun _ _ S => ?_ | refine st_held S rfl ?_ | refine w_guard (by (first | exact inK64 (by omega) (by omega) | omega | (constructor <;> omega) | ((try dsimp only [Sh.T, Sh1.T]); first | exact inK64 (by omega) (by omega) | omega | exact ⟨by decide, inK64 (by omega) (by omega)⟩ | trivial))) ?_ | refine bd_n rfl ?_ | refine bd_e rfl ?_ | refine bd_r ?_ | refine bd_p ?_ | refine ln_r ?_ | refine ln_e ?_ | refine w_true (b := true) rfl ?_ | refine w_false (b := false) rfl ?_ | refine w_item (S.rdr hrd) (by assumption) ?_ | refine h_item (S.rdr hrd) (by assumption) ?_ | refine w_num (S.rdr hro) (by assumption) ?_ | refine ld_sln S rfl ?_ | refine ld_sl S _ _ _ rfl ?_)
        have hl1 := lastO_snoc (xs.take j) xs[j] a.1
        rw [← take_snoc (by omega)] at hl1
        by_cases hxa : xs[j].1 = a.1
        · refine w_bnd (w_true (beq_t hxa) ?_)
          repeat (first | refine w_nonnil ?_ | refine ld_int S rfl ?_ | refine ld_some S rfl ?_ | refine ld_ptr S _ rfl ?_ | refine ld_sls S rfl ?_ | refine ld_nil S rfl ?_ | refine ld_bool S rfl ?_ | refine st_store S (lt_ble rfl) fun _ S => ?_ | refine st_alloc S fun _ _ S => ?_ | refine st_held S rfl ?_ | refine w_guard (by (first | exact inK64 (by omega) (by omega) | omega | (constructor <;> omega) | ((try dsimp only [Sh.T, Sh1.T]); first | exact inK64 (by omega) (by omega) | omega | exact ⟨by decide, inK64 (by omega) (by omega)⟩ | trivial))) ?_ | refine bd_n rfl ?_ | refine bd_e rfl ?_ | refine bd_r ?_ | refine bd_p ?_ | refine ln_r ?_ | refine ln_e ?_ | refine w_true (b := true) rfl ?_ | refine w_false (b := false) rfl ?_ | refine w_item (S.rdr hrd) (by assumption) ?_ | refine h_item (S.rdr hrd) (by assumption) ?_ | refine w_num (S.rdr hro) (by assumption) ?_ | refine ld_sln S rfl ?_ | refine ld_sl S _ _ _ rfl ?_)
          rw [if_pos hxa] at hl1
          exact ln_n rfl (r2 - 1) ⟨j + 1, by rw [hl1]; rfl, by omega, S.only [.ck (BaC hI), .sl (some p, kn, kc), .sl (some q, vn, vc)]⟩ (by omega)
        · refine w_bnd (w_false (beq_f hxa) ?_)
          repeat (first | refine w_nonnil ?_ | refine ld_int S rfl ?_ | refine ld_some S rfl ?_ | refine ld_ptr S _ rfl ?_ | refine ld_sls S rfl ?_ | refine ld_nil S rfl ?_ | refine ld_bool S rfl ?_ | refine st_store S (lt_ble rfl) fun _ S => ?_ | refine st_alloc S fun _ _ S => ?_ | refine st_held S rfl ?_ | refine w_guard (by (first | exact inK64 (by omega) (by omega) | omega | (constructor <;> omega) | ((try dsimp only [Sh.T, Sh1.T]); first | exact inK64 (by omega) (by omega) | omega | exact ⟨by decide, inK64 (by omega) (by omega)⟩ | trivial))) ?_ | refine bd_n rfl ?_ | refine bd_e rfl ?_ | refine bd_r ?_ | refine bd_p ?_ | refine ln_r ?_ | refine ln_e ?_ | refine w_true (b := true) rfl ?_ | refine w_false (b := false) rfl ?_ | refine w_item (S.rdr hrd) (by assumption) ?_ | refine h_item (S.rdr hrd) (by assumption) ?_ | refine w_num (S.rdr hro) (by assumption) ?_ | refine ld_sln S rfl ?_ | refine ld_sl S _ _ _ rfl ?_)
          rw [if_neg hxa] at hl1
          exact ln_n rfl (r2 - 1) ⟨j + 1, by rw [hl1]; rfl, by omega, S.only [.ck (BaC hI), .sl (some p, kn, kc), .sl (some q, vn, vc)]⟩ (by omega)
      · have hlj : lastO (xs.take j) a.1 = some a.2 := by rw [List.take_of_length_le (by omega)]; exact hla
        refine w_false (lt_f (by (first | omega | ((try dsimp only [Sh.T, Sh1.T]); omega)))) (ln_e (bd_e rfl ?_))
        rw [hlj]
        refine w_bnd (w_false rfl ?_)
        refine w_nonnil (w_guard ⟨by (first | omega | ((try dsimp only [Sh.T, Sh1.T]); omega)), by (first | omega | ((try dsimp only [Sh.T, Sh1.T]); omega))⟩ (w_num (S.rdr hvr) hva ?_))
        refine w_false (by simp) ?_
        by_cases hi0 : i = 0
        · subst hi0
          refine w_false rfl (bd_n rfl (w_false rfl ?_))
          repeat (first | refine w_nonnil ?_ | refine ld_int S rfl ?_ | refine ld_some S rfl ?_ | refine ld_ptr S _ rfl ?_ | refine ld_sls S rfl ?_ | refine ld_nil S rfl ?_ | refine ld_bool S rfl ?_ | refine st_store S (lt_ble rfl) fun _ S => ?_ | refine st_alloc S fun _ _ S => ?_ | refine st_held S rfl ?_ | refine w_guard (by (first | exact inK64 (by omega) (by omega) | omega | (constructor <;> omega) | ((try dsimp only [Sh.T, Sh1.T]); first | exact inK64 (by omega) (by omega) | omega | exact ⟨by decide, inK64 (by omega) (by omega)⟩ | trivial))) ?_ | refine bd_n rfl ?_ | refine bd_e rfl ?_ | refine bd_r ?_ | refine bd_p ?_ | refine ln_r ?_ | refine ln_e ?_ | refine w_true (b := true) rfl ?_ | refine w_false (b := false) rfl ?_ | refine w_item (S.rdr hrd) (by assumption) ?_ | refine h_item (S.rdr hrd) (by assumption) ?_ | refine w_num (S.rdr hro) (by assumption) ?_ | refine ld_sln S rfl ?_ | refine ld_sl S _ _ _ rfl ?_)
          exact ln_n rfl (r - 1) ⟨1, rfl, by omega, S⟩ (by omega)
        · obtain ⟨b, hb⟩ : ∃ b, (treeO [] xs)[i - 1]? = some b := ⟨_, List.getElem?_eq_getElem (by omega)⟩
          have hkb : (MI.kO (treeO [] xs))[i - 1]? = some b.1 := by rw [MI.kO, List.getElem?_map, hb]; rfl
          have hasc := tree_asc (show i - 1 < i by omega) hb ha
          refine w_true (decide_eq_true (by (first | omega | ((try dsimp only [Sh.T, Sh1.T]); omega)))) ?_
          refine w_guard (inK64 (by (first | omega | ((try dsimp only [Sh.T, Sh1.T]); omega))) (by (first | omega | ((try dsimp only [Sh.T, Sh1.T]); omega)))) (w_nonnil (w_guard ⟨by (first | omega | ((try dsimp only [Sh.T, Sh1.T]); omega)), by (first | omega | ((try dsimp only [Sh.T, Sh1.T]); omega))⟩ (w_num (S.rdr hkr) hkb ?_)))
          refine bd_n (x := (false, ())) (by rw [show decide (b.1 ≥ a.1) = false from decide_eq_false (by omega)]; rfl) (w_false rfl ?_)
          repeat (first | refine w_nonnil ?_ | refine ld_int S rfl ?_ | refine ld_some S rfl ?_ | refine ld_ptr S _ rfl ?_ | refine ld_sls S rfl ?_ | refine ld_nil S rfl ?_ | refine ld_bool S rfl ?_ | refine st_store S (lt_ble rfl) fun _ S => ?_ | refine st_alloc S fun _ _ S => ?_ | refine st_held S rfl ?_ | refine w_guard (by (first | exact inK64 (by omega) (by omega) | omega | (constructor <;> omega) | ((try dsimp only [Sh.T, Sh1.T]); first | exact inK64 (by omega) (by omega) | omega | exact ⟨by decide, inK64 (by omega) (by omega)⟩ | trivial))) ?_ | refine bd_n rfl ?_ | refine bd_e rfl ?_ | refine bd_r ?_ | refine bd_p ?_ | refine ln_r ?_ | refine ln_e ?_ | refine w_true (b := true) rfl ?_ | refine w_false (b := false) rfl ?_ | refine w_item (S.rdr hrd) (by assumption) ?_ | refine h_item (S.rdr hrd) (by assumption) ?_ | refine w_num (S.rdr hro) (by assumption) ?_ | refine ld_sln S rfl ?_ | refine ld_sl S _ _ _ rfl ?_)
          exact ln_n rfl (r - 1) ⟨i + 1, rfl, by omega, S⟩ (by omega)
    · refine w_false (lt_f (by (first | omega | ((try dsimp only [Sh.T, Sh1.T]); omega)))) (ln_e (bd_e rfl ?_))
      refine w_bnd (w_lp (fun r y h' => ∃ i : Nat, y = ((i : Int), ()) ∧ i + r = n ∧ St _ G [BaC hI, SlC (kp, kn, kc) LN.sz (LN.flat (MI.kO (treeO [] xs))), SlC (vp, vn, vc) LN.sz (LN.flat (vO (treeO [] xs)))] h') n rfl ⟨0, rfl, by omega, S⟩ ?_)
      clear S
      rintro r2 _ _ ⟨j, rfl, hj, S⟩
      by_cases hjl : j < n
      · obtain ⟨p2, hp2, hrd⟩ := hx.ptr (by omega)
        dsimp only at hp2
        subst hp2
        have hxj := List.getElem?_eq_getElem (show j < xs.length by omega)
        obtain ⟨v, hv2⟩ := key_tree (List.mem_of_getElem? hxj)
        have hmem : xs[j].1 ∈ MI.kO (treeO [] xs) := List.mem_map.2 ⟨_, hv2, rfl⟩
        simp only [Int.toNat_natCast, toNat_succ, toNat_succ2, toNat_pred]
        refine w_true (lt_t (by (first | omega | ((try dsimp only [Sh.T, Sh1.T]); omega)))) ?_
        repeat (first | refine w_nonnil ?_ | refine ld_int S rfl ?_ | refine ld_some S rfl ?_ | refine ld_ptr S _ rfl ?_ | refine ld_sls S rfl ?_ | refine ld_nil S rfl ?_ | refine ld_bool S rfl ?_ | refine st_store S (lt_ble rfl) fun _ S => ?_ | refine st_alloc S fun _ _ S => ?_ | refine st_held S rfl ?_ | refine w_guard (by (first | exact inK64 (by omega) (by omega) | omega | (constructor <;> omega) | ((try dsimp only [Sh.T, Sh1.T]); first | exact inK64 (by omega) (by omega) | omega | exact ⟨by decide, inK64 (by omega) (by omega)⟩ | trivial))) ?_ | refine bd_n rfl ?_ | refine bd_e rfl ?_ | refine bd_r ?_ | refine bd_p ?_ | refine ln_r ?_ | refine ln_e ?_ | refine w_true (b := true) rfl ?_ | refine w_false (b := false) rfl ?_ | refine w_item (S.rdr hrd) (by assumption) ?_ | refine h_item (S.rdr hrd) (by assumption) ?_ | refine w_num (S.rdr hro) (by assumption) ?_ | refine ld_sln S rfl ?_ | refine ld_sl S _ _ _ rfl ?_)
        refine st_callT S [.sl (kp, kn, kc)] (fun G hG => c_Contains hk.rdr (by rw [MI.kO_len]; omega) hG) ?_
        rintro _ _ _ ⟨rfl, rfl⟩ S
        dsimp only [List.cons_append, List.nil_append] at S
        refine w_false (by rw [decide_eq_true hmem]; rfl) ?_
        repeat (first | refine w_nonnil ?_ | refine ld_int S rfl ?_ | refine ld_some S rfl ?_ | refine ld_ptr S _ rfl ?_ | refine ld_sls S rfl ?_ | refine ld_nil S rfl ?_ | refine ld_bool S rfl ?_ | refine st_store S (lt_ble rfl) fun _ S => ?_ | refine st_alloc S fun _ _ S => ?_ | refine st_held S rfl ?_ | refine w_guard (by (first | exact inK64 (by omega) (by omega) | omega | (constructor <;> omega) | ((try dsimp only [Sh.T, Sh1.T]); first | exact inK64 (by omega) (by omega) | omega | exact ⟨by decide, inK64 (by omega) (by omega)⟩ | trivial))) ?_ | refine bd_n rfl ?_ | refine bd_e rfl ?_ | refine bd_r ?_ | refine bd_p ?_ | refine ln_r ?_ | refine ln_e ?_ | refine w_true (b := true) rfl ?_ | refine w_false (b := false) rfl ?_ | refine w_item (S.rdr hrd) (by assumption) ?_ | refine h_item (S.rdr hrd) (by assumption) ?_ | refine w_num (S.rdr hro) (by assumption) ?_ | refine ld_sln S rfl ?_ | refine ld_sl S _ _ _ rfl ?_)
        exact ln_n rfl (r2 - 1) ⟨j + 1, rfl, by omega, S.only [.ck (BaC hI), .sl (kp, kn, kc), .sl (vp, vn, vc)]⟩ (by omega)
      · refine w_false (lt_f (by (first | omega | ((try dsimp only [Sh.T, Sh1.T]); omega)))) (ln_e (bd_e rfl ?_))
        refine st_callT S [] (fun G hG => c_aliveM hG) ?_
        rintro _ _ _ ⟨rfl, rfl⟩ S
        dsimp only [List.cons_append, List.nil_append] at S
        exact rt_1 rfl ⟨_, ⟨rfl, rfl⟩, S.only [.ck (BaC hI)]⟩
  · refine w_true (by rw [decide_eq_false hf]; rfl) ?_
    refine st_callT S [] (fun G hG => c_aliveM hG) ?_
    rintro _ _ _ ⟨rfl, rfl⟩ S
    dsimp only [List.cons_append, List.nil_append] at S
    exact rt_1 rfl ⟨_, ⟨rfl, rfl⟩, S⟩
end
end Go.Proofs.Ytkhpbcckaenmcaa
