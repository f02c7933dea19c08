/-
  The thin package over the tree of interfaces: trees grown, asked, set. Conditions: none.
-/
import Derived.Test.YtlmiafbcgfegpaaZim
import Derived.Test.YtlmiafbcgfegpaaYis
set_option linter.unusedVariables false
set_option linter.unusedSimpArgs false
set_option linter.unusedSectionVars false
set_option maxRecDepth 100000
namespace Go.Proofs.Ytlmiafbcgfegpaa
open Go
def M_impl_growAny (a00p : Option PA) (a00l : Nat) (a00c : Nat) (a01 : Int) (a02 : Bool) (a1p : Option PA) (a1l : Nat) (a1c : Nat) : M :=
  .alloc ty_impl_Make [.sl (a00p) (a00l) (a00c), .int .i64 (a01), .bool (a02)] fun n0 =>
  .load (n0, 0) (.sl) fun s1 =>
  .load (n0, 0) (.sl) fun s2 =>
  .load (n0, 1) (.int .i64) fun i3 =>
  .load (n0, 2) (.bool) fun b4 =>
  .call fn_impl_beforeAny [.c (.sl (s1.fst) (s1.snd.fst) (s1.snd.snd))] false [.c (.raw)] fun r5 =>
  .held (n0, 0) (.sl (s2.fst) (s2.snd.fst) (s2.snd.snd)) <|
  .held (n0, 1) (.int .i64 (i3)) <|
  .held (n0, 2) (.bool (b4)) <|
  .call fn_impl_options [.agg [.sl (s2.fst) (s2.snd.fst) (s2.snd.snd), .int .i64 (i3), .bool (b4)]] false [.agg [.int .i64, .bool]] fun r6 =>
  .call fn_NewOptions [.c (.raw (r5.fst)), .agg [.int .i64 (r6.fst.fst), .bool (r6.fst.snd.fst)]] false [.c (.ptr)] fun r7 =>
  .bind (some 0) (.loop [.c (.int .i64)] [.c (.int .i64 (0))] fun y8 =>
      .ite (decide (y8.fst < (↑a1l : Int)))
      (.nonnil (a1p) fun p9 =>
        .guard (((0 : Int) ≤ y8.fst) ∧ ((y8.fst : Int) < (↑a1l : Int))) <|
        .load (p9.fst, p9.snd + mulN (Int.toNat y8.fst) 2) (.int .i64) fun i10 =>
        .load (p9.fst, p9.snd + mulN (Int.toNat y8.fst) 2 + 1) (.int .i64) fun i11 =>
        .alloc ty_impl_Item [.int .i64 (0), .int .i64 (0)] fun n12 =>
        .store (n12, 0) (.int .i64 (i10)) <|
        .store (n12, 1) (.int .i64 (i11)) <|
        .load (n12, 0) (.int .i64) fun i13 =>
        .load (n12, 1) (.int .i64) fun i14 =>
        .call fn_BTree_Set [.c (.ptr (r7.fst)), .c (.raw (Value.iface ty_impl_Item (AV.agg [(Sh1.int IntKind.i64).mk i13, (Sh1.int IntKind.i64).mk i14]).val))] false [.c (.raw)] fun r15 =>
        .guard (InK IntKind.i64 (y8.fst + 1)) <|
        .done .normal [.c (.int .i64 (y8.fst + 1))])
      (.done (.exit 0) [])) [] fun x16 =>
  .done .ret [.c (.ptr (r7.fst))]
theorem den_impl_growAny (a00p : Option PA) (a00l : Nat) (a00c : Nat) (a01 : Int) (a02 : Bool) (a1p : Option PA) (a1l : Nat) (a1c : Nat) : denFn Try.prog Try.f31 [.agg [.sl a00p a00l a00c, .int .i64 a01, .bool a02], .c (.sl a1p a1l a1c)] = M_impl_growAny a00p a00l a00c a01 a02 a1p a1l a1c := by kernel_rfl
theorem hc_impl_growAny (a00p : Option PA) (a00l : Nat) (a00c : Nat) (a01 : Int) (a02 : Bool) (a1p : Option PA) (a1l : Nat) (a1c : Nat) {h : H} {R : Value → H → Prop} (hw : wp Try.prog (M_impl_growAny a00p a00l a00c a01 a02 a1p a1l a1c) (Ret R) h) : HC Try.prog fn_impl_growAny (List.map AV.val [.agg [.sl a00p a00l a00c, .int .i64 a01, .bool a02], .c (.sl a1p a1l a1c)]).toArray h R :=
  den_calls hmix Try.func31 (of_decide_eq_true rfl) (by rw [den_impl_growAny]; exact hw)
def M_impl_BSet (a00p : Option PA) (a00l : Nat) (a00c : Nat) (a01 : Int) (a02 : Bool) (a1p : Option PA) (a1l : Nat) (a1c : Nat) : M :=
  .alloc ty_impl_Make [.sl (a00p) (a00l) (a00c), .int .i64 (a01), .bool (a02)] fun n0 =>
  .load (n0, 0) (.sl) fun s1 =>
  .load (n0, 1) (.int .i64) fun i2 =>
  .load (n0, 2) (.bool) fun b3 =>
  .call fn_impl_growAny [.agg [.sl (s1.fst) (s1.snd.fst) (s1.snd.snd), .int .i64 (i2), .bool (b3)], .c (.sl none (0) (0))] false [.c (.ptr)] fun r4 =>
  .bind (some 0) (.loop [.c (.int .i64), .c (.sl)] [.c (.int .i64 (0)), .c (.sl none (0) (0))] fun y5 =>
      .ite (decide (y5.fst < (↑a1l : Int)))
      (.nonnil (a1p) fun p6 =>
        .guard (((0 : Int) ≤ y5.fst) ∧ ((y5.fst : Int) < (↑a1l : Int))) <|
        .load (p6.fst, p6.snd + mulN (Int.toNat y5.fst) 2) (.int .i64) fun i7 =>
        .load (p6.fst, p6.snd + mulN (Int.toNat y5.fst) 2 + 1) (.int .i64) fun i8 =>
        .alloc ty_impl_Item [.int .i64 (0), .int .i64 (0)] fun n9 =>
        .store (n9, 0) (.int .i64 (i7)) <|
        .store (n9, 1) (.int .i64 (i8)) <|
        .load (n9, 0) (.int .i64) fun i10 =>
        .load (n9, 1) (.int .i64) fun i11 =>
        .call fn_BTree_Set [.c (.ptr (r4.fst)), .c (.raw (Value.iface ty_impl_Item (AV.agg [(Sh1.int IntKind.i64).mk i10, (Sh1.int IntKind.i64).mk i11]).val))] false [.c (.raw)] fun r12 =>
        .call fn_impl_foundAny [.c (.raw (r12.fst))] false [.agg [.int .i64, .int .i64, .bool]] fun r13 =>
        .alloc ty_impl_Found [.int .i64 (r13.fst.fst), .int .i64 (r13.fst.snd.fst), .bool (r13.fst.snd.snd.fst)] fun n14 =>
        .append ty_impl_Found 3 24 [.int .i64 (0), .int .i64 (0), .ff] ((y5.snd.fst.fst), y5.snd.fst.snd.fst, y5.snd.fst.snd.snd) ((some (n14, 0)), 1, 1) fun s15 =>
        .guard (InK IntKind.i64 (y5.fst + 1)) <|
        .done .normal [.c (.int .i64 (y5.fst + 1)), .c (.sl (s15.fst) (s15.snd.fst) (s15.snd.snd))])
      (.done (.exit 0) [.c (.sl (y5.snd.fst.fst) (y5.snd.fst.snd.fst) (y5.snd.fst.snd.snd))])) [.c (.sl)] fun x16 =>
  .call fn_impl_allOf [.c (.ptr (r4.fst))] false [.c (.sl)] fun r17 =>
  .done .ret [.c (.sl (x16.fst.fst) (x16.fst.snd.fst) (x16.fst.snd.snd)), .c (.sl (r17.fst.fst) (r17.fst.snd.fst) (r17.fst.snd.snd))]
theorem den_impl_BSet (a00p : Option PA) (a00l : Nat) (a00c : Nat) (a01 : Int) (a02 : Bool) (a1p : Option PA) (a1l : Nat) (a1c : Nat) : denFn Try.prog Try.f30 [.agg [.sl a00p a00l a00c, .int .i64 a01, .bool a02], .c (.sl a1p a1l a1c)] = M_impl_BSet a00p a00l a00c a01 a02 a1p a1l a1c := by kernel_rfl
theorem hc_impl_BSet (a00p : Option PA) (a00l : Nat) (a00c : Nat) (a01 : Int) (a02 : Bool) (a1p : Option PA) (a1l : Nat) (a1c : Nat) {h : H} {R : Value → H → Prop} (hw : wp Try.prog (M_impl_BSet a00p a00l a00c a01 a02 a1p a1l a1c) (Ret R) h) : HC Try.prog fn_impl_BSet (List.map AV.val [.agg [.sl a00p a00l a00c, .int .i64 a01, .bool a02], .c (.sl a1p a1l a1c)]).toArray h R :=
  den_calls hmix Try.func30 (of_decide_eq_true rfl) (by rw [den_impl_BSet]; exact hw)
section
variable {h : H}
set_option maxHeartbeats 1000000 in
theorem c_growAny {c : Ck} {o : List Int} {op : Option PA} {on oc : Nat} (hr : Rdr c (op, on, oc) LN o) (hl : o.length ≤ 2147483647) {d : Int} {nl : Bool} (hd : d ≤ 128) {xs : List IV} {sp : Option PA} {n cap : Nat} (hx : Rdr c (sp, n, cap) LT xs) (hxl : xs.length ≤ 2147483647) {G : PA → Prop} (hG : Star [c] h G) :
    HT Try.prog fn_impl_growAny [.agg [.sl op on oc, .int .i64 d, .bool nl], .c (.sl sp n cap)] false [.c .ptr] h fun r h' => ∃ post, (∃ (m : Nat) (p f : PA), r = (some (m, 0), ()) ∧ post = [c, OaC p f o, BtC (baF p) o (TB.dgOf d) (m, 0) (treeO o xs)]) ∧ St h G post h' := by
  apply hc_impl_growAny
  unfold M_impl_growAny
  have hn : n = xs.length := hx.1
  refine st_alloc (St.start hG) fun n0 _ S => ?_
  refine ld_sl S op on oc rfl (ld_sl S op on oc rfl (ld_int S rfl (ld_bool S rfl ?_)))
  refine st_callT S [.ck c] (fun G hG => c_beforeAny hr hl hG) ?_
  rintro _ _ _ ⟨p, f, rfl, rfl⟩ S
  dsimp only [List.cons_append, List.nil_append] at S
  refine st_held S rfl (st_held S rfl (st_held S rfl ?_))
  refine st_callT S [] (fun G hG => c_options hG) ?_
  rintro _ _ _ ⟨rfl, rfl⟩ S
  dsimp only [List.cons_append, List.nil_append] at S
  refine st_callT S [] (fun G hG => c_NewO (lss_any (f := f) hl) hd hG) ?_
  rintro _ _ _ ⟨m, rfl, rfl⟩ S
  dsimp only [List.cons_append, List.nil_append] at S
  have S := S.ats [.ck c, .ck (OaC p f o), .mp (m, 0)]
  have S := S.only [.ck c, .ck (OaC p f o), .mp (m, 0)]
  refine w_mid' (some 0) (fun _ h' => St h G [c, OaC p f o, BtC (baF p) o (TB.dgOf d) (m, 0) (treeO o xs)] h') ?_ ?_
  · refine w_lp (fun r y h' => ∃ i : Nat, y = ((i : Int), ()) ∧ i + r = n ∧ St h G [c, OaC p f o, BtC (baF p) o (TB.dgOf d) (m, 0) (treeO o (xs.take i))] h') n rfl ⟨0, rfl, by omega, S⟩ ?_
    clear S
    rintro r _ _ ⟨i, rfl, hi, S⟩
    by_cases hlt : i < n
    · obtain ⟨q, hq, hrd⟩ := hx.ptr (by omega)
      dsimp only at hq
      subst hq
      have hxi := List.getElem?_eq_getElem (show i < xs.length by omega)
      have htl := treeO_len o (xs.take i)
      have htl2 : (xs.take i).length ≤ i := List.length_take_le _ _
      simp only [Int.toNat_natCast, toNat_succ, toNat_succ2, toNat_pred]
      refine w_true (lt_t (by (first | omega | ((try dsimp only [Sh.T, Sh1.T]); omega)))) ?_
      repeat (first | refine w_nonnil ?_ | refine ld_int S rfl ?_ | refine ld_some S rfl ?_ | refine ld_ptr S _ rfl ?_ | refine ld_sls S rfl ?_ | refine ld_nil S rfl ?_ | refine ld_bool S rfl ?_ | refine st_store S (lt_ble rfl) fun _ S => ?_ | refine st_alloc S fun _ _ S => ?_ | refine st_held S rfl ?_ | refine w_guard (by (first | exact inK64 (by omega) (by omega) | omega | (constructor <;> omega) | ((try dsimp only [Sh.T, Sh1.T]); first | exact inK64 (by omega) (by omega) | omega | exact ⟨by decide, inK64 (by omega) (by omega)⟩ | trivial))) ?_ | refine bd_n rfl ?_ | refine bd_e rfl ?_ | refine bd_r ?_ | refine bd_p ?_ | refine ln_r ?_ | refine ln_e ?_ | refine w_true (b := true) rfl ?_ | refine w_false (b := false) rfl ?_ | refine w_guard (show noMeths _ _ by show _ = _; kernel_rfl) ?_ | refine w_item (S.rdr hrd) (by assumption) ?_ | refine h_item (S.rdr hrd) (by assumption) ?_ | refine w_num (S.rdr hro) (by assumption) ?_ | refine ld_sln S rfl ?_ | refine ld_sl S _ _ _ rfl ?_)
      refine st_callB S [.mp (m, 0)] (fun G hG hb => HT.re (args' := [.c (.addr (m, 0)), .c (.raw (anyV xs[i]))]) rfl <| c_BSet (x := xs[i]) (lss_any (f := f) hl) (by omega) (hb (OaC p f o) (by simp)) hG) ?_
      rintro _ _ _ ⟨rfl, rfl⟩ S
      dsimp only [List.cons_append, List.nil_append] at S
      have e : put (ltO o) (treeO o (xs.take i)) xs[i] = treeO o (xs.take (i + 1)) := by rw [take_snoc (by omega), treeO_snoc]
      rw [e] at S
      repeat (first | refine w_nonnil ?_ | refine ld_int S rfl ?_ | refine ld_some S rfl ?_ | refine ld_ptr S _ rfl ?_ | refine ld_sls S rfl ?_ | refine ld_nil S rfl ?_ | refine ld_bool S rfl ?_ | refine st_store S (lt_ble rfl) fun _ S => ?_ | refine st_alloc S fun _ _ S => ?_ | refine st_held S rfl ?_ | refine w_guard (by (first | exact inK64 (by omega) (by omega) | omega | (constructor <;> omega) | ((try dsimp only [Sh.T, Sh1.T]); first | exact inK64 (by omega) (by omega) | omega | exact ⟨by decide, inK64 (by omega) (by omega)⟩ | trivial))) ?_ | refine bd_n rfl ?_ | refine bd_e rfl ?_ | refine bd_r ?_ | refine bd_p ?_ | refine ln_r ?_ | refine ln_e ?_ | refine w_true (b := true) rfl ?_ | refine w_false (b := false) rfl ?_ | refine w_guard (show noMeths _ _ by show _ = _; kernel_rfl) ?_ | refine w_item (S.rdr hrd) (by assumption) ?_ | refine h_item (S.rdr hrd) (by assumption) ?_ | refine w_num (S.rdr hro) (by assumption) ?_ | refine ld_sln S rfl ?_ | refine ld_sl S _ _ _ rfl ?_)
      exact ln_n rfl (r - 1) ⟨i + 1, rfl, by omega, S.only [.ck c, .ck (OaC p f o), .mp (m, 0)]⟩ (by omega)
    · rw [List.take_of_length_le (by omega)] at S
      exact w_false (lt_f (by (first | omega | ((try dsimp only [Sh.T, Sh1.T]); omega)))) (ln_e (md_e rfl S))
  · rintro _ _ S
    exact rt_1 rfl ⟨_, ⟨m, p, f, rfl, rfl⟩, S⟩
set_option maxHeartbeats 1000000 in
theorem c_BSetI {c : Ck} {o : List Int} {op : Option PA} {on oc : Nat} (hr : Rdr c (op, on, oc) LN o) (hl : o.length ≤ 2147483647) {d : Int} {nl : Bool} (hd : d ≤ 128) {xs : List IV} {sp : Option PA} {n cap : Nat} (hx : Rdr c (sp, n, cap) LT xs) (hxl : xs.length ≤ 2147483647) {G : PA → Prop} (hG : Star [c] h G) :
    HT Try.prog fn_impl_BSet [.agg [.sl op on oc, .int .i64 d, .bool nl], .c (.sl sp n cap)] true [.c .sl, .c .sl] h fun r h' => ∃ post, (∃ s t : SlT, r = (s, t, ()) ∧ OwnL LF s (setsF o [] xs) ∧ OwnL LT t (treeO o xs) ∧ post = [c, SlC s LF.sz (LF.flat (setsF o [] xs)), SlC t LT.sz (LT.flat (treeO o xs))]) ∧ St h G post h' := by
  apply hc_impl_BSet
  unfold M_impl_BSet
  have hn : n = xs.length := hx.1
  have htl := treeO_len o xs
  refine st_alloc (St.start hG) fun n0 _ S => ?_
  (refine ld_sl S op on oc rfl (ld_int S rfl (ld_bool S rfl ?_)))
  refine st_callT S [.ck c] (fun G hG => c_growAny hr hl hd (xs := []) Rdr.nil (by decide) hG) ?_
  rintro _ _ _ ⟨m, p, f, rfl, rfl⟩ S
  dsimp only [List.cons_append, List.nil_append] at S
  have S := sl_nil LF S
  refine w_mid' (some 0) (fun (y : SV [.c .sl]) h' => ∃ s : SlT, y = (s, ()) ∧ OwnL LF s (setsF o [] xs) ∧ St h G [c, OaC p f o, BtC (baF p) o (TB.dgOf d) (m, 0) (setsR o [] xs), SlC s LF.sz (LF.flat (setsF o [] xs))] h') ?_ ?_
  · refine w_lp (fun r y h' => ∃ (i : Nat) (s : SlT), y = ((i : Int), s, ()) ∧ i + r = n ∧ OwnL LF s (setsF o [] (xs.take i)) ∧ St h G [c, OaC p f o, BtC (baF p) o (TB.dgOf d) (m, 0) (setsR o [] (xs.take i)), SlC s LF.sz (LF.flat (setsF o [] (xs.take i)))] h') n rfl
      ⟨0, (none, 0, 0), rfl, by omega, ⟨rfl, Nat.le_refl _, .inl rfl⟩, S.only [.ck c, .ck (OaC p f o), .mp (m, 0), .sl (none, 0, 0)]⟩ ?_
    clear S
    rintro r _ _ ⟨i, s, rfl, hi, hs, S⟩
    by_cases hlt : i < n
    · obtain ⟨q, hq, hrd⟩ := hx.ptr (by omega)
      dsimp only at hq
      subst hq
      have hxi := List.getElem?_eq_getElem (show i < xs.length by omega)
      have hsl : (setsF o [] (xs.take i)).length = i := by rw [setsF_len, List.length_take]; omega
      have htl := treeO_len o (xs.take i)
      rw [← setsR_tree] at htl
      have htl2 : (xs.take i).length ≤ i := List.length_take_le _ _
      obtain ⟨s1, s2, s3⟩ := s
      simp only [Int.toNat_natCast, toNat_succ, toNat_succ2, toNat_pred]
      refine w_true (lt_t (by (first | omega | ((try dsimp only [Sh.T, Sh1.T]); omega)))) ?_
      repeat (first | refine w_nonnil ?_ | refine ld_int S rfl ?_ | refine ld_some S rfl ?_ | refine ld_ptr S _ rfl ?_ | refine ld_sls S rfl ?_ | refine ld_nil S rfl ?_ | refine ld_bool S rfl ?_ | refine st_store S (lt_ble rfl) fun _ S => ?_ | refine st_alloc S fun _ _ S => ?_ | refine st_held S rfl ?_ | refine w_guard (by (first | exact inK64 (by omega) (by omega) | omega | (constructor <;> omega) | ((try dsimp only [Sh.T, Sh1.T]); first | exact inK64 (by omega) (by omega) | omega | exact ⟨by decide, inK64 (by omega) (by omega)⟩ | trivial))) ?_ | refine bd_n rfl ?_ | refine bd_e rfl ?_ | refine bd_r ?_ | refine bd_p ?_ | refine ln_r ?_ | refine ln_e ?_ | refine w_true (b := true) rfl ?_ | refine w_false (b := false) rfl ?_ | refine w_guard (show noMeths _ _ by show _ = _; kernel_rfl) ?_ | refine w_item (S.rdr hrd) (by assumption) ?_ | refine h_item (S.rdr hrd) (by assumption) ?_ | refine w_num (S.rdr hro) (by assumption) ?_ | refine ld_sln S rfl ?_ | refine ld_sl S _ _ _ rfl ?_)
      refine st_callB S [.mp (m, 0)] (fun G hG hb => HT.re (args' := [.c (.addr (m, 0)), .c (.raw (anyV xs[i]))]) rfl <| c_BSet (x := xs[i]) (lss_any (f := f) hl) (by omega) (hb (OaC p f o) (by simp)) hG) ?_
      rintro _ _ _ ⟨rfl, rfl⟩ S
      dsimp only [List.cons_append, List.nil_append] at S
      refine st_callT S [] (fun G hG => c_foundAny hG) ?_
      rintro _ _ _ ⟨rfl, rfl⟩ S
      dsimp only [List.cons_append, List.nil_append] at S
      refine st_alloc S fun n6 _ S => ?_
      refine st_apo (L := LF) (xs := setsF o [] (xs.take i)) (y := fnd (ltO o) (setsR o [] (xs.take i)) xs[i]) S hs rfl rfl (S.rsl (LF.flat [_]) 1 1 3 (fun i v h => by rw [Nat.zero_add]; exact h) rfl) ⟨by omega, by omega⟩ fun s' _ hs' S => ?_
      rw [← setsF_snoc, ← take_snoc (by omega)] at hs'
      rw [← setsF_snoc, ← setsR_snoc, ← take_snoc (by omega)] at S
      refine w_guard (inK64 (by (first | omega | ((try dsimp only [Sh.T, Sh1.T]); omega))) (by (first | omega | ((try dsimp only [Sh.T, Sh1.T]); omega)))) ?_
      exact ln_n rfl (r - 1) ⟨i + 1, s', rfl, by omega, hs', S.only [.ck c, .ck (OaC p f o), .mp (m, 0), .sl s']⟩ (by omega)
    · rw [List.take_of_length_le (by omega)] at hs S
      exact w_false (lt_f (by (first | omega | ((try dsimp only [Sh.T, Sh1.T]); omega)))) (ln_e (md_e rfl ⟨s, rfl, hs, S⟩))
  · rintro _ _ ⟨s, rfl, hs, S⟩
    rw [setsR_tree] at S
    refine st_callV S [.mp (m, 0)] (args' := [.c (.addr (m, 0))]) rfl (fun G hG => c_allOf (by omega) hG) ?_
    rintro _ _ _ ⟨t, rfl, ht, rfl⟩ S
    dsimp only [List.cons_append, List.nil_append] at S
    exact rt_n rfl rfl ⟨_, ⟨s, t, rfl, hs, ht, rfl⟩, S.only [.ck c, .sl s, .sl t]⟩
end
end Go.Proofs.Ytlmiafbcgfegpaa
