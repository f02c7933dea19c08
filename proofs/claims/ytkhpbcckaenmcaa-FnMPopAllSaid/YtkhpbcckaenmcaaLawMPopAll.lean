/-
  The law FnMPopAll. Conditions: none.
-/
import Derived.Test.YtkhpbcckaenmcaaLawMSorted
import Derived.Test.YtkhpbcckaenmcaaEn
import Derived.Test.YtkhpbcckaenmcaaTu
import Derived.Test.YtkhpbcckaenmcaaGc
set_option linter.unusedVariables false
set_option linter.unusedSimpArgs false
set_option linter.unusedSectionVars false
set_option maxRecDepth 100000
namespace Go.Proofs.Ytkhpbcckaenmcaa
open Go

def M_laws_FnMPopAll (a0 : Int) (a1p : Option PA) (a1l : Nat) (a1c : Nat) (a2 : Bool) : M :=
  .ite (decide ((↑a1l : Int) > 2147483647))
  (.done .ret [.c (.tt)])
  (.call fn_laws_fit [.c (.int .i64 (a0))] false [.c (.bool)] fun r0 =>
    .ite (!r0.fst)
    (.call fn_laws_aliveM [] false [.c (.bool)] fun r1 =>
      .done .ret [.c (.bool (r1.fst))])
    (.call fn_impl_MScan [.c (.int .i64 (a0)), .c (.sl (a1p) (a1l) (a1c)), .c (.int .i64 (0))] false [.c (.sl)] fun r2 =>
      .bind none (.ite (a2)
        (.call fn_laws_turned [.c (.sl (r2.fst.fst) (r2.fst.snd.fst) (r2.fst.snd.snd))] false [.c (.sl)] fun r3 =>
          .done .normal [.c (.sl (r3.fst.fst) (r3.fst.snd.fst) (r3.fst.snd.snd))])
        (.done .normal [.c (.sl (r2.fst.fst) (r2.fst.snd.fst) (r2.fst.snd.snd))])) [.c (.sl)] fun x4 =>
      .guard (InK IntKind.i64 ((↑x4.fst.snd.fst : Int) + 1)) <|
      .make ty_bool 1 1 [.ff] ((↑x4.fst.snd.fst : Int) + 1) ((↑x4.fst.snd.fst : Int) + 1) fun s5 =>
      .bind (some 0) (.loop [.c (.int .i64)] [.c (.int .i64 (0))] fun y6 =>
          .ite (decide (y6.fst < (↑s5.snd.fst : Int)))
          (.nonnil (s5.fst) fun p7 =>
            .guard (((0 : Int) ≤ y6.fst) ∧ ((y6.fst : Int) < (↑s5.snd.fst : Int))) <|
            .store (p7.fst, p7.snd + Int.toNat y6.fst) (.bool (a2)) <|
            .guard (InK IntKind.i64 (y6.fst + 1)) <|
            .done .normal [.c (.int .i64 (y6.fst + 1))])
          (.done (.exit 0) [])) [] fun x8 =>
      .call fn_impl_MPops [.c (.int .i64 (a0)), .c (.sl (a1p) (a1l) (a1c)), .c (.sl (s5.fst) (s5.snd.fst) (s5.snd.snd))] true [.c (.sl), .c (.sl)] fun r9 =>
      .bind none (.guard (InK IntKind.i64 ((↑x4.fst.snd.fst : Int) + 1)) <|
        .ite ((↑r9.fst.snd.fst : Int) != (↑x4.fst.snd.fst : Int) + 1)
        (.done .normal [.c (.tt)])
        (.ite ((↑r9.snd.fst.snd.fst : Int) != 0)
          (.done .normal [.c (.tt)])
          (.nonnil (r9.fst.fst) fun p10 =>
            .guard (((0 : Int) ≤ (↑x4.fst.snd.fst : Int)) ∧ (((↑x4.fst.snd.fst : Int) : Int) < (↑r9.fst.snd.fst : Int))) <|
            .load (p10.fst, p10.snd + mulN (↑x4.fst.snd.fst : Int).toNat 3 + 2) (.bool) fun b11 =>
            .done .normal [.c (.bool (b11))]))) [.c (.bool)] fun x12 =>
      .ite (x12.fst)
      (.done .ret [.c (.ff)])
      (.bind (some 2) (.loop [.c (.int .i64)] [.c (.int .i64 (0))] fun y13 =>
            .ite (decide (y13.fst < (↑x4.fst.snd.fst : Int)))
            (.nonnil (x4.fst.fst) fun p14 =>
              .guard (((0 : Int) ≤ y13.fst) ∧ ((y13.fst : Int) < (↑x4.fst.snd.fst : Int))) <|
              .load (p14.fst, p14.snd + mulN (Int.toNat y13.fst) 2) (.int .i64) fun i15 =>
              .load (p14.fst, p14.snd + mulN (Int.toNat y13.fst) 2 + 1) (.int .i64) fun i16 =>
              .alloc ty_impl_Item [.int .i64 (0), .int .i64 (0)] fun n17 =>
              .store (n17, 0) (.int .i64 (i15)) <|
              .store (n17, 1) (.int .i64 (i16)) <|
              .nonnil (r9.fst.fst) fun p18 =>
              .guard (((0 : Int) ≤ y13.fst) ∧ ((y13.fst : Int) < (↑r9.fst.snd.fst : Int))) <|
              .load (p18.fst, p18.snd + mulN (Int.toNat y13.fst) 3) (.int .i64) fun i19 =>
              .load (p18.fst, p18.snd + mulN (Int.toNat y13.fst) 3 + 1) (.int .i64) fun i20 =>
              .load (p18.fst, p18.snd + mulN (Int.toNat y13.fst) 3 + 2) (.bool) fun b21 =>
              .load (n17, 0) (.int .i64) fun i22 =>
              .load (n17, 1) (.int .i64) fun i23 =>
              .ite (!(i19 == i22 && (i20 == i23 && true) && (b21 == true && true)))
              (.done .ret [.c (.ff)])
              (.guard (InK IntKind.i64 (y13.fst + 1)) <|
                .done .normal [.c (.int .i64 (y13.fst + 1))]))
            (.done (.exit 2) [])) [] fun x24 =>
        .call fn_laws_aliveM [] false [.c (.bool)] fun r25 =>
        .done .ret [.c (.bool (r25.fst))])))

theorem den_laws_FnMPopAll (a0 : Int) (a1p : Option PA) (a1l : Nat) (a1c : Nat) (a2 : Bool) : denFn Try.prog Try.f13 [.c (.int .i64 a0), .c (.sl a1p a1l a1c), .c (.bool a2)] = M_laws_FnMPopAll a0 a1p a1l a1c a2 := by kernel_rfl
theorem hc_laws_FnMPopAll (a0 : Int) (a1p : Option PA) (a1l : Nat) (a1c : Nat) (a2 : Bool) {h : H} {R : Value → H → Prop} (hw : wp Try.prog (M_laws_FnMPopAll a0 a1p a1l a1c a2) (Ret R) h) : HC Try.prog fn_laws_FnMPopAll (List.map AV.val [.c (.int .i64 a0), .c (.sl a1p a1l a1c), .c (.bool a2)]).toArray h R :=
  den_calls hmix Try.func13 (of_decide_eq_true rfl) (by rw [den_laws_FnMPopAll]; exact hw)


theorem pops_head (l : List IV) : popsF l (List.replicate (l.length + 1) false) = l.map some ++ [none] ∧ popsR l (List.replicate (l.length + 1) false) = [] := by
  induction l with
  | nil => exact ⟨rfl, rfl⟩
  | cons a l ih =>
    rw [List.length_cons, List.replicate_succ]
    exact ⟨by show some a :: popsF l _ = _; rw [ih.1]; rfl, by show popsR l _ = _; exact ih.2⟩
theorem pops_last : ∀ (k : Nat) (l : List IV), popsF l (List.replicate k true) = popsF l.reverse (List.replicate k false) ∧ (popsR l (List.replicate k true)).reverse = popsR l.reverse (List.replicate k false)
  | 0, l => ⟨rfl, rfl⟩
  | k + 1, l => by
    have ih := pops_last k l.dropLast
    have e : l.dropLast.reverse = l.reverse.tail := by simp
    rw [e] at ih
    rw [List.replicate_succ, List.replicate_succ]
    refine ⟨?_, ?_⟩
    · show l.getLast? :: popsF l.dropLast _ = l.reverse.head? :: popsF l.reverse.tail _
      rw [ih.1, List.head?_reverse]
    · show (popsR l.dropLast _).reverse = popsR l.reverse.tail _
      exact ih.2
/-- The items, from one end or the other. -/
def endO (e : Bool) (l : List IV) : List IV := if e then l.reverse else l
theorem endO_len (e : Bool) (l : List IV) : (endO e l).length = l.length := by unfold endO; split <;> simp
theorem pops_all (e : Bool) (l : List IV) : popsF l (List.replicate (l.length + 1) e) = (endO e l).map some ++ [none] ∧ popsR l (List.replicate (l.length + 1) e) = [] := by
  cases e with
  | false => exact pops_head l
  | true =>
    have h1 := pops_last (l.length + 1) l
    have h2 := pops_head l.reverse
    rw [List.length_reverse] at h2
    refine ⟨by rw [h1.1, h2.1]; rfl, ?_⟩
    have := h1.2
    rw [h2.2] at this
    exact List.reverse_eq_nil_iff.1 this
theorem rep_set {α : Type} (a b : α) {i n : Nat} (h : i < n) : (List.replicate i a ++ List.replicate (n - i) b).set i a = List.replicate (i + 1) a ++ List.replicate (n - (i + 1)) b := by
  rw [show n - i = (n - (i + 1)) + 1 by omega, List.replicate_succ, List.set_append_right _ _ (by simp), List.length_replicate, Nat.sub_self, List.replicate_succ']
  simp
theorem LB_rep (n : Nat) (e : Bool) : List.replicate n (Value.bool e) = LB.flat (List.replicate n e) := by
  induction n with
  | zero => rfl
  | succ n ih => rw [List.replicate_succ, List.replicate_succ, LB.flat_cons, ← ih]; rfl
theorem made_bool (n : Nat) : (madeCells (List.map Cell.val [Cell.ff]).toArray (n * 1)).toList = List.replicate n (Value.bool false) := by
  simp [madeCells, Nat.mod_one, Cell.val, List.map_const']
section
variable {h : H}
set_option maxHeartbeats 2000000 in
theorem c_FnMPopAll {hI : H} {d : Int} {e : Bool} {xs : List IV} {sp : Option PA} {n cap : Nat} (hx : Rdr (BaC hI) (sp, n, cap) LT xs) {G : PA → Prop} (hG : Star [BaC hI] h G) :
    HT Try.prog fn_laws_FnMPopAll [.c (.int .i64 d), .c (.sl sp n cap), .c (.bool e)] false [.c .bool] h fun r h' => ∃ post, (r = (true, ()) ∧ post = [BaC hI]) ∧ St h G post h' := by
  apply hc_laws_FnMPopAll
  unfold M_laws_FnMPopAll
  have hn : n = xs.length := hx.1
  have htl := treeO_len [] xs
  have S := St.start hG
  by_cases hbig : n > 2147483647
  · exact w_true (decide_eq_true (by omega)) (rt_1 rfl ⟨_, ⟨rfl, rfl⟩, S⟩)
  refine w_false (decide_eq_false (by omega)) ?_
  refine w_callT c_fit ?_
  rintro _ h ⟨rfl, rfl⟩
  by_cases hf : 2 ≤ d ∧ d ≤ 128
  · refine w_false (by rw [decide_eq_true hf]; rfl) ?_
    refine st_callT S [.ck (BaC hI)] (fun G hG => c_MScan (by omega) hx (by omega) hG) ?_
    rintro _ _ _ ⟨s, rfl, hs, rfl⟩ S
    rw [firstO_all] at hs S
    dsimp only [List.cons_append, List.nil_append] at S
    refine w_mid' none (fun (y : SV [.c .sl]) h' => ∃ s : SlT, y = (s, ()) ∧ OwnL LT s (endO e (treeO [] xs)) ∧ St h G [BaC hI, SlC s LT.sz (LT.flat (endO e (treeO [] xs)))] h') ?_ ?_
    · cases e with
      | true =>
        refine w_true rfl ?_
        refine st_callV S [.sl s] (args' := [.c (.sl s.1 s.2.1 s.2.2)]) rfl (fun G hG => c_turned hs.rdr (by omega) hG) ?_
        rintro _ _ _ ⟨s2, rfl, hs2, rfl⟩ S
        dsimp only [List.cons_append, List.nil_append] at S
        exact md_n rfl ⟨s2, rfl, hs2, S.only [.ck (BaC hI), .sl s2]⟩
      | false => exact w_false rfl (md_n rfl ⟨s, rfl, hs, S.only [.ck (BaC hI), .sl s]⟩)
    clear S hs s
    rintro _ _ ⟨⟨ip, m, ic⟩, rfl, hs, S⟩
    have hm : m = (treeO [] xs).length := by have := hs.1; rw [endO_len] at this; exact this
    refine w_guard (inK64 (by (first | omega | ((try dsimp only [Sh.T, Sh1.T]); omega))) (by (first | omega | ((try dsimp only [Sh.T, Sh1.T]); omega)))) ?_
    refine st_make S rfl (by (first | omega | ((try dsimp only [Sh.T, Sh1.T]); omega))) (by (first | omega | ((try dsimp only [Sh.T, Sh1.T]); omega))) (by (first | omega | ((try dsimp only [Sh.T, Sh1.T]); omega))) (by (first | omega | ((try dsimp only [Sh.T, Sh1.T]); omega))) fun n5 _ S => ?_
    have e1 : (((m : Int) + 1).toNat) = m + 1 := by omega
    dsimp only
    rw [e1] at S ⊢
    rw [made_bool] at S
    obtain ⟨p, n', c', e2, _, _, S⟩ := S.open_sl rfl
    cases e2
    rw [Nat.sub_self, Nat.zero_mul] at S
    refine w_mid' (some 0) (fun _ h' => St h G [BaC hI, SlC (ip, m, ic) LT.sz (LT.flat (endO e (treeO [] xs))), Ow (n5, 0) (LB.flat (List.replicate (m + 1) e)) 0] h') ?_ ?_
    · refine w_lp (fun r y h' => ∃ i : Nat, y = ((i : Int), ()) ∧ i + r = m + 1 ∧ St h G [Ow (n5, 0) (List.replicate i (Value.bool e) ++ List.replicate (m + 1 - i) (Value.bool false)) 0, BaC hI, SlC (ip, m, ic) LT.sz (LT.flat (endO e (treeO [] xs)))] h') (m + 1) rfl ⟨0, rfl, by omega, by simpa using S⟩ ?_
      clear S
      rintro r _ _ ⟨i, rfl, hi, S⟩
      by_cases hlt : i < m + 1
      · refine w_true (lt_t (by (first | omega | ((try dsimp only [Sh.T, Sh1.T]); omega)))) (w_nonnil (w_guard ⟨by (first | omega | ((try dsimp only [Sh.T, Sh1.T]); omega)), by (first | omega | ((try dsimp only [Sh.T, Sh1.T]); omega))⟩ ?_))
        simp only [Int.toNat_natCast, toNat_succ, toNat_succ2, toNat_pred]
        refine st_store S (by simp; omega) fun _ S => ?_
        have S := S.re (n5, 0) (List.replicate (i + 1) (Value.bool e) ++ List.replicate (m + 1 - (i + 1)) (Value.bool false)) 0 rfl (by rw [Nat.zero_add]; exact rep_set (Value.bool e) (Value.bool false) hlt) rfl
        refine w_guard (inK64 (by (first | omega | ((try dsimp only [Sh.T, Sh1.T]); omega))) (by (first | omega | ((try dsimp only [Sh.T, Sh1.T]); omega)))) ?_
        exact ln_n rfl (r - 1) ⟨i + 1, rfl, by omega, S⟩ (by omega)
      · obtain rfl : i = m + 1 := by omega
        refine w_false (lt_f (by (first | omega | ((try dsimp only [Sh.T, Sh1.T]); omega)))) (ln_e (md_e rfl ?_))
        have S := S.re (n5, 0) (LB.flat (List.replicate (m + 1) e)) 0 rfl (by rw [Nat.sub_self, ← LB_rep]; simp) rfl
        exact S.ats [.ck (BaC hI), .sl (ip, m, ic)]
    clear S
    rintro _ _ S
    have hb : Rdr (Ow (n5, 0) (LB.flat (List.replicate (m + 1) e)) 0) (some (n5, 0), m + 1, m + 1) LB (List.replicate (m + 1) e) := Rdr.ow (by simp)
    (have S := S.ats [.ck (BaC hI), .ow (n5, 0)]; refine st_callT (l := StC [BaC hI, Ow (n5, 0) (LB.flat (List.replicate (m + 1) e)) 0] :: _) (St.st_in (m := [_, _]) S) [.ck (StC [BaC hI, Ow (n5, 0) (LB.flat (List.replicate (m + 1) e)) 0])] (fun G hG => c_MPops (by omega) (Rdr.st (i := 0) rfl hx) (by omega) (Rdr.st (i := 1) rfl hb) (by simp; omega) hG) ?_)
    rintro _ _ h5 ⟨⟨fp, fn, fc⟩, ⟨lp, ln, lc⟩, rfl, hf2, hl2, rfl⟩ S
    have hp12 := pops_all e (treeO [] xs)
    rw [← hm] at hp12
    obtain ⟨p1, p2⟩ := hp12
    rw [p1, p2] at S
    rw [p1] at hf2
    rw [p2] at hl2
    dsimp only [List.cons_append, List.nil_append] at S
    have hfn : fn = m + 1 := by have := hf2.1; simp [endO_len] at this; omega
    have hln : ln = 0 := hl2.1
    subst hfn; subst hln
    obtain ⟨p, hp, hfr⟩ := hf2.rdr.ptr (by simp)
    dsimp only at hp
    subst hp
    have S := S.ats [.sl (some p, m + 1, fc), .ck (StC [BaC hI, Ow (n5, 0) (LB.flat (List.replicate (m + 1) e)) 0])]
    refine w_mid' none (fun (y : SV [.c .bool]) h' => y = (false, ()) ∧ h' = h5) ?_ ?_
    · refine w_guard (inK64 (by (first | omega | ((try dsimp only [Sh.T, Sh1.T]); omega))) (by (first | omega | ((try dsimp only [Sh.T, Sh1.T]); omega)))) (w_false (by simp) (w_false rfl (w_nonnil (w_guard ⟨by (first | omega | ((try dsimp only [Sh.T, Sh1.T]); omega)), by (first | omega | ((try dsimp only [Sh.T, Sh1.T]); omega))⟩ ?_))))
      have h2 := S.rdr hfr (m * 3 + 2) _ (LF.flat_get (j := 2) (i := m) (x := none) (by rw [List.getElem?_append_right (by simp [endO_len]; omega)]; simp [endO_len, hm]) rfl)
      simp only [Int.toNat_natCast, toNat_succ, toNat_succ2, toNat_pred]
      refine w_bool false (by rw [mulN_eq]; simpa [Nat.add_assoc] using h2) (md_n rfl ⟨rfl, rfl⟩)
    rintro _ h5 ⟨rfl, rfl⟩
    refine w_false rfl ?_
    refine w_mid' (some 2) (fun _ h' => St h G [BaC hI] h') ?_ ?_
    · refine w_lp (fun r y h' => ∃ i : Nat, y = ((i : Int), ()) ∧ i + r = m ∧ St h G [SlC (some p, m + 1, fc) LF.sz (LF.flat ((endO e (treeO [] xs)).map some ++ [none])), SlC (ip, m, ic) LT.sz (LT.flat (endO e (treeO [] xs))), StC [BaC hI, Ow (n5, 0) (LB.flat (List.replicate (m + 1) e)) 0]] h') m rfl ⟨0, rfl, by omega, S.only [.sl (some p, m + 1, fc), .sl (ip, m, ic), .ck (StC [BaC hI, Ow (n5, 0) (LB.flat (List.replicate (m + 1) e)) 0])]⟩ ?_
      clear S
      rintro r _ _ ⟨i, rfl, hi, S⟩
      by_cases hlt : i < m
      · obtain ⟨q, hq, hit⟩ := hs.rdr.ptr (by rw [endO_len]; omega)
        dsimp only at hq
        subst hq
        obtain ⟨y, hy⟩ : ∃ y, (endO e (treeO [] xs))[i]? = some y := ⟨_, List.getElem?_eq_getElem (by rw [endO_len]; omega)⟩
        have hyf : ((endO e (treeO [] xs)).map some ++ [none])[i]? = some (some y) := by rw [List.getElem?_append_left (by simp [endO_len]; omega), List.getElem?_map, hy]; rfl
        refine w_true (lt_t (by (first | omega | ((try dsimp only [Sh.T, Sh1.T]); omega)))) (w_nonnil (w_guard ⟨by (first | omega | ((try dsimp only [Sh.T, Sh1.T]); omega)), by (first | omega | ((try dsimp only [Sh.T, Sh1.T]); omega))⟩ ?_))
        simp only [Int.toNat_natCast, toNat_succ, toNat_succ2, toNat_pred]
        refine w_item (S.rdr hit) hy ?_
        refine st_alloc S fun n17 _ S => ?_
        refine st_store S (lt_ble rfl) fun _ S => ?_
        refine st_store S (lt_ble rfl) fun _ S => ?_
        refine w_nonnil (w_guard ⟨by (first | omega | ((try dsimp only [Sh.T, Sh1.T]); omega)), by (first | omega | ((try dsimp only [Sh.T, Sh1.T]); omega))⟩ ?_)
        refine w_fnd (S.rdr hfr) hyf ?_
        refine ld_int S rfl (ld_int S rfl (w_false (by simp) ?_))
        refine w_guard (inK64 (by (first | omega | ((try dsimp only [Sh.T, Sh1.T]); omega))) (by (first | omega | ((try dsimp only [Sh.T, Sh1.T]); omega)))) ?_
        exact ln_n rfl (r - 1) ⟨i + 1, rfl, by omega, S.only [.sl (some p, m + 1, fc), .sl (some q, m, ic), .ck (StC [BaC hI, Ow (n5, 0) (LB.flat (List.replicate (m + 1) e)) 0])]⟩ (by omega)
      · refine w_false (lt_f (by (first | omega | ((try dsimp only [Sh.T, Sh1.T]); omega)))) (ln_e (md_e rfl ?_))
        have S := St.st_out (S.at (.ck (StC [BaC hI, Ow (n5, 0) (LB.flat (List.replicate (m + 1) e)) 0])))
        dsimp only [List.cons_append, List.nil_append] at S
        exact S.only [.ck (BaC hI)]
    clear S
    rintro _ _ S
    refine st_callT S [] (fun G hG => c_aliveM hG) ?_
    rintro _ _ _ ⟨rfl, rfl⟩ S
    dsimp only [List.cons_append, List.nil_append] at S
    exact rt_1 rfl ⟨_, ⟨rfl, rfl⟩, S⟩
  · refine w_true (by rw [decide_eq_false hf]; rfl) ?_
    refine st_callT S [] (fun G hG => c_aliveM hG) ?_
    rintro _ _ _ ⟨rfl, rfl⟩ S
    dsimp only [List.cons_append, List.nil_append] at S
    exact rt_1 rfl ⟨_, ⟨rfl, rfl⟩, S⟩
end
end Go.Proofs.Ytkhpbcckaenmcaa
