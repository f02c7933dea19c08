/-
  Heights that are right for a number of items. Conditions: none.
-/
import Derived.Test.YthcgddidkoejbaaYal
set_option linter.unusedVariables false
set_option linter.unusedSimpArgs false
set_option linter.unusedSectionVars false
set_option maxRecDepth 100000
namespace Go.Proofs.Ythcgddidkoejbaa
open Go

def M_laws_height (a0 : Int) (a1 : Int) (a2 : Int) : M :=
  .bind none (.ite (decide (a1 < 0))
    (.done .normal [.c (.tt)])
    (.ite (decide (a1 > 63))
      (.done .normal [.c (.tt)])
      (.done .normal [.c (.bool (!(a1 == 0) == (a2 == 0)))]))) [.c (.bool)] fun x0 =>
  .ite (x0.fst)
  (.done .ret [.c (.ff)])
  (.bind none (.ite (a0 == 0)
      (.done .normal [.c (.int .i64 (32))])
      (.done .normal [.c (.int .i64 (a0))])) [.c (.int .i64)] fun x1 =>
    .bind (some 0) (.loop [.c (.int .i64), .c (.int .i64), .c (.int .i64)] [.c (.int .i64 (0)), .c (.int .i64 (1)), .c (.int .i64 (1))] fun y2 =>
        .ite (decide (y2.fst < a1))
        (.guard (InK IntKind.i64 (2 * y2.snd.snd.fst)) <|
          .guard (InK IntKind.i64 (2 * x1.fst)) <|
          .guard (InK IntKind.i64 (2 * x1.fst * y2.snd.fst)) <|
          .guard (InK IntKind.i64 (y2.fst + 1)) <|
          .done .normal [.c (.int .i64 (y2.fst + 1)), .c (.int .i64 (minI (2 * x1.fst * y2.snd.fst) 1099511627776)), .c (.int .i64 (minI (2 * y2.snd.snd.fst) 1099511627776))])
        (.done (.exit 0) [.c (.int .i64 (y2.snd.fst)), .c (.int .i64 (y2.snd.snd.fst))])) [.c (.int .i64), .c (.int .i64)] fun x3 =>
    .bind none (.guard (InK IntKind.i64 (x3.snd.fst - 1)) <|
      .ite (decide (a2 ≥ x3.snd.fst - 1))
      (.guard (InK IntKind.i64 (x3.fst - 1)) <|
        .done .normal [.c (.bool (decide (a2 ≤ x3.fst - 1)))])
      (.done .normal [.c (.ff)])) [.c (.bool)] fun x4 =>
    .done .ret [.c (.bool (x4.fst))])

theorem den_laws_height (a0 : Int) (a1 : Int) (a2 : Int) : denFn Try.prog Try.f24 [.c (.int .i64 a0), .c (.int .i64 a1), .c (.int .i64 a2)] = M_laws_height a0 a1 a2 := by kernel_rfl
theorem hc_laws_height (a0 : Int) (a1 : Int) (a2 : Int) {h : H} {R : Value → H → Prop} (hw : wp Try.prog (M_laws_height a0 a1 a2) (Ret R) h) : HC Try.prog fn_laws_height (List.map AV.val [.c (.int .i64 a0), .c (.int .i64 a1), .c (.int .i64 a2)]).toArray h R :=
  den_calls hmix Try.func24 (of_decide_eq_true rfl) (by rw [den_laws_height]; exact hw)

def M_laws_FnGHeight (a00p : Option PA) (a00l : Nat) (a00c : Nat) (a01 : Int) (a02 : Bool) (a1p : Option PA) (a1l : Nat) (a1c : Nat) : M :=
  .alloc ty_impl_Make [.sl (a00p) (a00l) (a00c), .int .i64 (a01), .bool (a02)] fun n0 =>
  .bind none (.load (n0, 0) (.sl) fun s1 =>
    .load (n0, 1) (.int .i64) fun i2 =>
    .load (n0, 2) (.bool) fun b3 =>
    .call fn_laws_zzFits1 [.agg [.sl (s1.fst) (s1.snd.fst) (s1.snd.snd), .int .i64 (i2), .bool (b3)]] false [.c (.bool)] fun r4 =>
    .ite (!r4.fst)
    (.done .normal [.c (.tt)])
    (.done .normal [.c (.bool (decide ((↑a1l : Int) > 2147483647)))])) [.c (.bool)] fun x5 =>
  .ite (x5.fst)
  (.done .ret [.c (.tt)])
  (.load (n0, 0) (.sl) fun s6 =>
    .load (n0, 1) (.int .i64) fun i7 =>
    .load (n0, 2) (.bool) fun b8 =>
    .call fn_laws_fits [.agg [.sl (s6.fst) (s6.snd.fst) (s6.snd.snd), .int .i64 (i7), .bool (b8)]] false [.c (.bool)] fun r9 =>
    .ite (!r9.fst)
    (.call fn_laws_alive [] false [.c (.bool)] fun r10 =>
      .done .ret [.c (.bool (r10.fst))])
    (.bind none (.load (n0, 1) (.int .i64) fun i11 =>
        .load (n0, 0) (.sl) fun s12 =>
        .load (n0, 1) (.int .i64) fun i13 =>
        .load (n0, 2) (.bool) fun b14 =>
        .load (n0, 0) (.sl) fun s15 =>
        .call fn_impl_GHeight [.agg [.sl (s12.fst) (s12.snd.fst) (s12.snd.snd), .int .i64 (i13), .bool (b14)], .c (.sl (a1p) (a1l) (a1c))] false [.c (.int .i64)] fun r16 =>
        .held (n0, 0) (.sl (s15.fst) (s15.snd.fst) (s15.snd.snd)) <|
        .held (n0, 1) (.int .i64 (i11)) <|
        .call fn_spec_Tree [.c (.sl (s15.fst) (s15.snd.fst) (s15.snd.snd)), .c (.sl (a1p) (a1l) (a1c))] false [.c (.sl)] fun r17 =>
        .held (n0, 1) (.int .i64 (i11)) <|
        .call fn_laws_height [.c (.int .i64 (i11)), .c (.int .i64 (r16.fst)), .c (.int .i64 ((↑r17.fst.snd.fst : Int)))] false [.c (.bool)] fun r18 =>
        .ite (r18.fst)
        (.call fn_laws_alive [] false [.c (.bool)] fun r19 =>
          .done .normal [.c (.bool (r19.fst))])
        (.done .normal [.c (.ff)])) [.c (.bool)] fun x20 =>
      .done .ret [.c (.bool (x20.fst))]))

theorem den_laws_FnGHeight (a00p : Option PA) (a00l : Nat) (a00c : Nat) (a01 : Int) (a02 : Bool) (a1p : Option PA) (a1l : Nat) (a1c : Nat) : denFn Try.prog Try.f5 [.agg [.sl a00p a00l a00c, .int .i64 a01, .bool a02], .c (.sl a1p a1l a1c)] = M_laws_FnGHeight a00p a00l a00c a01 a02 a1p a1l a1c := by kernel_rfl
theorem hc_laws_FnGHeight (a00p : Option PA) (a00l : Nat) (a00c : Nat) (a01 : Int) (a02 : Bool) (a1p : Option PA) (a1l : Nat) (a1c : Nat) {h : H} {R : Value → H → Prop} (hw : wp Try.prog (M_laws_FnGHeight a00p a00l a00c a01 a02 a1p a1l a1c) (Ret R) h) : HC Try.prog fn_laws_FnGHeight (List.map AV.val [.agg [.sl a00p a00l a00c, .int .i64 a01, .bool a02], .c (.sl a1p a1l a1c)]).toArray h R :=
  den_calls hmix Try.func5 (of_decide_eq_true rfl) (by rw [den_laws_FnGHeight]; exact hw)


theorem step_minE (D j E : Nat) (hD : 1 ≤ D) : minI ((D * min (D ^ j) E : Nat) : Int) (E : Int) = ((min (D ^ (j + 1)) E : Nat) : Int) := by
  have e : D ^ (j + 1) = D * D ^ j := by rw [Nat.pow_succ, Nat.mul_comm]
  rw [e]
  generalize D ^ j = p
  unfold minI
  by_cases hp : p ≤ E
  · rw [Nat.min_eq_left hp]
    generalize D * p = q
    split <;> omega
  · rw [Nat.min_eq_right (show E ≤ p by omega)]
    have h1 : 1 * p ≤ D * p := Nat.mul_le_mul_right p hD
    have h2 : 1 * E ≤ D * E := Nat.mul_le_mul_right _ hD
    generalize D * p = q at *
    generalize D * E = r at *
    split <;> omega
theorem step_min (D j : Nat) (hD : 1 ≤ D) : minI ((D * min (D ^ j) 1099511627776 : Nat) : Int) 1099511627776 = ((min (D ^ (j + 1)) 1099511627776 : Nat) : Int) := step_minE D j 1099511627776 hD
theorem dg_ht {d : Int} (hf : d = 0 ∨ 2 ≤ d ∧ d ≤ 128) : ∃ e : Nat, 2 ≤ e ∧ e ≤ 128 ∧ (if d = 0 then 32 else d) = (e : Int) ∧ 2 * TG.dgOf d + 2 = 2 * e := by
  unfold TG.dgOf
  rcases hf with rfl | ⟨h1, h2⟩
  · exact ⟨32, by omega, by omega, rfl, rfl⟩
  · refine ⟨d.toNat, by omega, by omega, by rw [if_neg (by omega)]; omega, ?_⟩
    rw [if_neg (by omega), if_neg (by omega)]
    omega
section
variable {h : H}
set_option maxHeartbeats 1000000 in
theorem c_height {d : Int} {k m : Nat} (hf : d = 0 ∨ 2 ≤ d ∧ d ≤ 128) (hk : TG.HtOK (TG.dgOf d) k m) (hm : m ≤ 2147483647) : HT Try.prog fn_laws_height [.c (.int .i64 d), .c (.int .i64 k), .c (.int .i64 m)] false [.c .bool] h fun r h' => r = (true, ()) ∧ h' = h := by
  obtain ⟨e, he1, he2, he, hdg⟩ := dg_ht hf
  obtain ⟨k1, k2, k3⟩ := hk
  rw [hdg] at k3
  have hk31 : k ≤ 31 := by
    refine Nat.le_of_not_lt fun h => ?_
    have : 2 ^ 32 ≤ 2 ^ k := Nat.pow_le_pow_right (by omega) h
    omega
  apply hc_laws_height
  unfold M_laws_height
  refine w_bnd (w_false (decide_eq_false (by omega)) (w_false (decide_eq_false (by omega)) (bd_n rfl (w_false ?_ ?_))))
  · show (!(((k : Int) == 0) == ((m : Int) == 0))) = false
    by_cases h0 : k = 0
    · simp [h0, k1.1 h0]
    · have : m ≠ 0 := fun h => h0 (k1.2 h)
      rw [show ((k : Int) == 0) = false by simp; omega, show ((m : Int) == 0) = false by simp; omega]; rfl
  refine w_mid' none (fun (y : SV [.c (.int .i64)]) h' => y = ((e : Int), ()) ∧ h' = h) ?_ ?_
  · by_cases h0 : d = 0
    · rw [if_pos h0] at he
      exact w_true (by simp [h0]) (md_n (by rw [← he]; rfl) ⟨rfl, rfl⟩)
    · rw [if_neg h0] at he
      exact w_false (by simp [h0]) (md_n (by rw [← he]; rfl) ⟨rfl, rfl⟩)
  rintro _ _ ⟨rfl, rfl⟩
  rename_i h
  refine w_mid' (some 0) (fun (y : SV [.c (.int .i64), .c (.int .i64)]) h' => y = (((min ((2 * e) ^ k) 1099511627776 : Nat) : Int), ((min (2 ^ k) 1099511627776 : Nat) : Int), ()) ∧ h' = h) ?_ ?_
  · refine w_lp (fun r y h' => ∃ j : Nat, y = ((j : Int), ((min ((2 * e) ^ j) 1099511627776 : Nat) : Int), ((min (2 ^ j) 1099511627776 : Nat) : Int), ()) ∧ j + r = k ∧ h' = h) k rfl ⟨0, rfl, by omega, rfl⟩ ?_
    rintro r _ _ ⟨j, rfl, hj, rfl⟩
    by_cases hlt : j < k
    · have s1 := step_min 2 j (by omega)
      have s2 := step_min (2 * e) j (by omega)
      have b1 : min (2 ^ j) 1099511627776 ≤ 1099511627776 := Nat.min_le_right _ _
      have b2 : min ((2 * e) ^ j) 1099511627776 ≤ 1099511627776 := Nat.min_le_right _ _
      have b3 : (2 * e) * min ((2 * e) ^ j) 1099511627776 ≤ 256 * 1099511627776 := Nat.mul_le_mul (by omega) b2
      have e1 : 2 * ((min (2 ^ j) 1099511627776 : Nat) : Int) = ((2 * min (2 ^ j) 1099511627776 : Nat) : Int) := by omega
      have e2 : 2 * (e : Int) * ((min ((2 * e) ^ j) 1099511627776 : Nat) : Int) = (((2 * e) * min ((2 * e) ^ j) 1099511627776 : Nat) : Int) := by
        rw [Int.natCast_mul (2 * e)]; rfl
      refine w_true (lt_t (by (first | omega | ((try dsimp only [Sh.T, Sh1.T]); omega)))) ?_
      dsimp only
      rw [e1, e2, s1, s2]
      generalize (2 * e) * min ((2 * e) ^ j) 1099511627776 = q at *
      generalize min (2 ^ j) 1099511627776 = p at *
      refine w_guard (inK64 (by omega) (by omega)) (w_guard (inK64 (by omega) (by omega)) (w_guard (inK64 (by omega) (by omega)) (w_guard (inK64 (by omega) (by omega)) ?_)))
      exact ln_n rfl (r - 1) ⟨j + 1, rfl, by omega, rfl⟩ (by omega)
    · obtain rfl : j = k := by omega
      exact w_false (lt_f (by (first | omega | ((try dsimp only [Sh.T, Sh1.T]); omega)))) (ln_e (md_e rfl ⟨rfl, rfl⟩))
  rintro _ _ ⟨rfl, rfl⟩
  have c1 : min (2 ^ k) 1099511627776 ≤ m + 1 := Nat.le_trans (Nat.min_le_left _ _) k2
  have c2 : m + 1 ≤ min ((2 * e) ^ k) 1099511627776 := Nat.le_min.2 ⟨k3, by omega⟩
  have b1 : min (2 ^ k) 1099511627776 ≤ 1099511627776 := Nat.min_le_right _ _
  have b2 : min ((2 * e) ^ k) 1099511627776 ≤ 1099511627776 := Nat.min_le_right _ _
  generalize min (2 ^ k) 1099511627776 = p at *
  generalize min ((2 * e) ^ k) 1099511627776 = q at *
  refine w_bnd (w_guard (inK64 (by (first | omega | ((try dsimp only [Sh.T, Sh1.T]); omega))) (by (first | omega | ((try dsimp only [Sh.T, Sh1.T]); omega)))) (w_true (decide_eq_true (by (first | omega | ((try dsimp only [Sh.T, Sh1.T]); omega)))) (w_guard (inK64 (by (first | omega | ((try dsimp only [Sh.T, Sh1.T]); omega))) (by (first | omega | ((try dsimp only [Sh.T, Sh1.T]); omega)))) (bd_n rfl (rt_1 rfl ⟨?_, rfl⟩)))))
  show (decide ((m : Int) ≤ (q : Int) - 1), ()) = _
  rw [decide_eq_true (by omega)]
set_option maxHeartbeats 1000000 in
theorem c_FnGHeight {hI : H} {o : List Int} {op : Option PA} {on oc : Nat} (hr : Rdr (BaC hI) (op, on, oc) LN o) {d : Int} {nl : Bool} {xs : List IV} {sp : Option PA} {n cap : Nat} (hx : Rdr (BaC hI) (sp, n, cap) LT xs) {G : PA → Prop} (hG : Star [BaC hI] h G) :
    HT Try.prog fn_laws_FnGHeight [.agg [.sl op on oc, .int .i64 d, .bool nl], .c (.sl sp n cap)] false [.c .bool] h fun r h' => ∃ post, (r = (true, ()) ∧ post = [BaC hI]) ∧ St h G post h' := by
  apply hc_laws_FnGHeight
  unfold M_laws_FnGHeight
  have hn : n = xs.length := hx.1
  have htl := treeO_len o xs
  have hno : on = o.length := hr.1
  refine st_alloc (St.start hG) fun n0 _ S => ?_
  refine w_mid' none (fun (y : SV [.c .bool]) h' => (y = (true, ()) ∨ y = (false, ()) ∧ on ≤ 2147483647 ∧ n ≤ 2147483647) ∧ St h G [Ow (n0, 0) (List.map Cell.val [.sl op on oc, .int .i64 d, .bool nl]) 0, BaC hI] h') ?_ ?_
  · refine ld_sl S op on oc rfl (ld_int S rfl (ld_bool S rfl ?_))
    refine st_callT S [] (fun G hG => c_zzFits1 hG) ?_
    rintro _ _ _ ⟨rfl, rfl⟩ S
    dsimp only [List.cons_append, List.nil_append] at S
    by_cases hbo : on > 2147483647
    · exact w_true (by rw [decide_eq_false (by (first | omega | ((try dsimp only [Sh.T, Sh1.T]); omega)))]; rfl) (md_n rfl ⟨.inl rfl, S.only [.ow (n0, 0), .ck (BaC hI)]⟩)
    refine w_false (by rw [decide_eq_true (by (first | omega | ((try dsimp only [Sh.T, Sh1.T]); omega)))]; rfl) ?_
    by_cases hb0 : n > 2147483647
    · exact md_n (x := (true, ())) (by rw [decide_eq_true (by omega)]; rfl) ⟨.inl rfl, S.only [.ow (n0, 0), .ck (BaC hI)]⟩
    exact md_n (x := (false, ())) (by rw [decide_eq_false (by omega)]; rfl) ⟨.inr ⟨rfl, by omega, by omega⟩, S.only [.ow (n0, 0), .ck (BaC hI)]⟩
  rintro _ _ ⟨rfl | ⟨rfl, hz0, hz1⟩, S⟩
  · exact w_true rfl (rt_1 rfl ⟨_, ⟨rfl, rfl⟩, S.only [.ck (BaC hI)]⟩)
  refine w_false rfl ?_
  refine ld_sl S op on oc rfl (ld_int S rfl (ld_bool S rfl ?_))
  refine st_callT S [] (fun G hG => c_fits hG) ?_
  rintro _ _ _ ⟨rfl, rfl⟩ S
  dsimp only [List.cons_append, List.nil_append] at S
  by_cases hf : d = 0 ∨ 2 ≤ d ∧ d ≤ 128
  case neg =>
    refine w_true (by rw [decide_eq_false hf]; rfl) ?_
    refine st_callT S [] (fun G hG => c_alive hG) ?_
    rintro _ _ _ ⟨rfl, rfl⟩ S
    dsimp only [List.cons_append, List.nil_append] at S
    exact rt_1 rfl ⟨_, ⟨rfl, rfl⟩, S.only [.ck (BaC hI)]⟩
  refine w_false (by rw [decide_eq_true hf]; rfl) ?_
  refine w_bnd (ld_int S rfl (ld_sl S op on oc rfl (ld_int S rfl (ld_bool S rfl (ld_sl S op on oc rfl ?_)))))
  refine st_callT S [.ck (BaC hI)] (fun G hG => c_GHeight hr (by omega) (by omega) hx (by omega) hG) ?_
  rintro _ _ _ ⟨⟨k, rfl, hk⟩, rfl⟩ S
  dsimp only [List.cons_append, List.nil_append] at S
  have S := S.ats [.ow (n0, 0), .ck (BaC hI)]
  refine st_held S rfl (st_held S rfl ?_)
  refine st_callT S [.ck (BaC hI)] (fun G hG => c_Tree hr (by omega) hx (by omega) hG) ?_
  rintro _ _ _ ⟨t, rfl, ht, rfl⟩ S
  dsimp only [List.cons_append, List.nil_append] at S
  have S := S.ats [.ow (n0, 0), .ck (BaC hI)]
  refine st_held S rfl ?_
  have htn : t.2.1 = (treeO o xs).length := ht.1
  rw [htn]
  refine w_callT (c_height hf hk (by omega)) ?_
  rintro _ _ ⟨rfl, rfl⟩
  refine w_true rfl ?_
  (refine st_callT S [] (fun G hG => c_alive hG) ?_; rintro _ _ _ ⟨rfl, rfl⟩ S; dsimp only [List.cons_append, List.nil_append] at S)
  exact bd_n rfl (rt_1 rfl ⟨_, ⟨rfl, rfl⟩, S.only [.ck (BaC hI)]⟩)
end
end Go.Proofs.Ythcgddidkoejbaa
