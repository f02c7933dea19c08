/-
  The law FnBNews. Conditions: none.
-/
import Derived.Test.YtlhbdmjeomffhaaZis
import Derived.Test.YtlhbdmjeomffhaaYsq
set_option linter.unusedVariables false
set_option linter.unusedSimpArgs false
set_option linter.unusedSectionVars false
set_option maxRecDepth 100000
namespace Go.Proofs.Ytlhbdmjeomffhaa
open Go
def M_New (a0 : Value) : M :=
  .guard (fnOk a0) <|
  .bind none (.ite (rawNil a0)
    (.fail)
    (.done .normal [])) [] fun x0 =>
  .call fn_NewBTreeG_any [.c (.raw (a0))] false [.c (.ptr)] fun r1 =>
  .alloc ty_btree_BTree [.ptr (r1.fst)] fun n2 =>
  .done .ret [.c (.addr (n2, 0))]
theorem den_New (a0 : Value) : denFn Try.prog Try.f56 [.c (.raw a0)] = M_New a0 := by kernel_rfl
theorem hc_New (a0 : Value) {h : H} {R : Value → H → Prop} (hw : wp Try.prog (M_New a0) (Ret R) h) : HC Try.prog fn_New (List.map AV.val [.c (.raw a0)]).toArray h R :=
  den_calls hmix Try.func56 (of_decide_eq_true rfl) (by rw [den_New]; exact hw)
def M_NewNonConcurrent (a0 : Value) : M :=
  .guard (fnOk a0) <|
  .bind none (.ite (rawNil a0)
    (.fail)
    (.done .normal [])) [] fun x0 =>
  .call fn_NewBTreeGOptions_any [.c (.raw (a0)), .agg [.int .i64 (0), .tt]] false [.c (.ptr)] fun r1 =>
  .alloc ty_btree_BTree [.ptr (r1.fst)] fun n2 =>
  .done .ret [.c (.addr (n2, 0))]
theorem den_NewNonConcurrent (a0 : Value) : denFn Try.prog Try.f57 [.c (.raw a0)] = M_NewNonConcurrent a0 := by kernel_rfl
theorem hc_NewNonConcurrent (a0 : Value) {h : H} {R : Value → H → Prop} (hw : wp Try.prog (M_NewNonConcurrent a0) (Ret R) h) : HC Try.prog fn_NewNonConcurrent (List.map AV.val [.c (.raw a0)]).toArray h R :=
  den_calls hmix Try.func57 (of_decide_eq_true rfl) (by rw [den_NewNonConcurrent]; exact hw)
def M_impl_BNew (a0 : Int) (a1p : Option PA) (a1l : Nat) (a1c : Nat) (a2p : Option PA) (a2l : Nat) (a2c : Nat) : M :=
  .call fn_impl_beforeAny [.c (.sl (a1p) (a1l) (a1c))] false [.c (.raw)] fun r0 =>
  .bind none (.ite (a0 == 1)
    (.call fn_New [.c (.raw (r0.fst))] false [.c (.ptr)] fun r1 =>
      .done .normal [.c (.ptr (r1.fst))])
    (.bind none (.ite (a0 == 2)
        (.call fn_NewNonConcurrent [.c (.raw (r0.fst))] false [.c (.ptr)] fun r2 =>
          .done .normal [.c (.ptr (r2.fst))])
        (.call fn_NewOptions [.c (.raw (r0.fst)), .agg [.int .i64 (0), .ff]] false [.c (.ptr)] fun r3 =>
          .done .normal [.c (.ptr (r3.fst))])) [.c (.ptr)] fun x4 =>
      .done .normal [.c (.ptr (x4.fst))])) [.c (.ptr)] fun x5 =>
  .bind (some 1) (.loop [.c (.int .i64)] [.c (.int .i64 (0))] fun y6 =>
      .ite (decide (y6.fst < (↑a2l : Int)))
      (.nonnil (a2p) fun p7 =>
        .guard (((0 : Int) ≤ y6.fst) ∧ ((y6.fst : Int) < (↑a2l : Int))) <|
        .load (p7.fst, p7.snd + mulN (Int.toNat y6.fst) 2) (.int .i64) fun i8 =>
        .load (p7.fst, p7.snd + mulN (Int.toNat y6.fst) 2 + 1) (.int .i64) fun i9 =>
        .alloc ty_impl_Item [.int .i64 (0), .int .i64 (0)] fun n10 =>
        .store (n10, 0) (.int .i64 (i8)) <|
        .store (n10, 1) (.int .i64 (i9)) <|
        .load (n10, 0) (.int .i64) fun i11 =>
        .load (n10, 1) (.int .i64) fun i12 =>
        .call fn_BTree_Set [.c (.ptr (x5.fst)), .c (.raw (Value.iface ty_impl_Item (AV.agg [(Sh1.int IntKind.i64).mk i11, (Sh1.int IntKind.i64).mk i12]).val))] false [.c (.raw)] fun r13 =>
        .guard (InK IntKind.i64 (y6.fst + 1)) <|
        .done .normal [.c (.int .i64 (y6.fst + 1))])
      (.done (.exit 1) [])) [] fun x14 =>
  .call fn_impl_allOf [.c (.ptr (x5.fst))] false [.c (.sl)] fun r15 =>
  .done .ret [.c (.sl (r15.fst.fst) (r15.fst.snd.fst) (r15.fst.snd.snd))]
theorem den_impl_BNew (a0 : Int) (a1p : Option PA) (a1l : Nat) (a1c : Nat) (a2p : Option PA) (a2l : Nat) (a2c : Nat) : denFn Try.prog Try.f27 [.c (.int .i64 a0), .c (.sl a1p a1l a1c), .c (.sl a2p a2l a2c)] = M_impl_BNew a0 a1p a1l a1c a2p a2l a2c := by kernel_rfl
theorem hc_impl_BNew (a0 : Int) (a1p : Option PA) (a1l : Nat) (a1c : Nat) (a2p : Option PA) (a2l : Nat) (a2c : Nat) {h : H} {R : Value → H → Prop} (hw : wp Try.prog (M_impl_BNew a0 a1p a1l a1c a2p a2l a2c) (Ret R) h) : HC Try.prog fn_impl_BNew (List.map AV.val [.c (.int .i64 a0), .c (.sl a1p a1l a1c), .c (.sl a2p a2l a2c)]).toArray h R :=
  den_calls hmix Try.func27 (of_decide_eq_true rfl) (by rw [den_impl_BNew]; exact hw)
def M_laws_aliveB  : M :=
  .call fn_laws_exMake [] false [.agg [.sl, .int .i64, .bool]] fun r0 =>
  .call fn_laws_exItems [] false [.c (.sl)] fun r1 =>
  .guard (((0 : Int) ≤ 3) ∧ ((3 : Int) ≤ (↑r1.fst.snd.snd : Int))) <|
  .call fn_impl_BSet [.agg [.sl (r0.fst.fst.fst) (r0.fst.fst.snd.fst) (r0.fst.fst.snd.snd), .int .i64 (r0.fst.snd.fst), .bool (r0.fst.snd.snd.fst)], .c (.sl (slBase r1.fst.fst r1.fst.snd.snd 0 2) (3) (r1.fst.snd.snd - 0))] true [.c (.sl), .c (.sl)] fun r2 =>
  .done .ret [.c (.bool ((↑r2.snd.fst.snd.fst : Int) == 3))]
theorem den_laws_aliveB  : denFn Try.prog Try.f30 [] = M_laws_aliveB  := by kernel_rfl
theorem hc_laws_aliveB  {h : H} {R : Value → H → Prop} (hw : wp Try.prog (M_laws_aliveB ) (Ret R) h) : HC Try.prog fn_laws_aliveB (List.map AV.val []).toArray h R :=
  den_calls hmix Try.func30 (of_decide_eq_true rfl) (by rw [den_laws_aliveB]; exact hw)
def M_laws_FnBNews (a0p : Option PA) (a0l : Nat) (a0c : Nat) (a1p : Option PA) (a1l : Nat) (a1c : Nat) : M :=
  .bind none (.ite (decide ((↑a0l : Int) > 2147483647))
    (.done .normal [.c (.tt)])
    (.done .normal [.c (.bool (decide ((↑a1l : Int) > 2147483647)))])) [.c (.bool)] fun x0 =>
  .ite (x0.fst)
  (.done .ret [.c (.tt)])
  (.call fn_impl_BNew [.c (.int .i64 (1)), .c (.sl (a0p) (a0l) (a0c)), .c (.sl (a1p) (a1l) (a1c))] false [.c (.sl)] fun r1 =>
    .bind none (.call fn_impl_BNew [.c (.int .i64 (2)), .c (.sl (a0p) (a0l) (a0c)), .c (.sl (a1p) (a1l) (a1c))] false [.c (.sl)] fun r2 =>
      .call fn_slices_Equal_impl_Item_impl_Item [.c (.sl (r1.fst.fst) (r1.fst.snd.fst) (r1.fst.snd.snd)), .c (.sl (r2.fst.fst) (r2.fst.snd.fst) (r2.fst.snd.snd))] false [.c (.bool)] fun r3 =>
      .ite (r3.fst)
      (.call fn_impl_BNew [.c (.int .i64 (0)), .c (.sl (a0p) (a0l) (a0c)), .c (.sl (a1p) (a1l) (a1c))] false [.c (.sl)] fun r4 =>
        .call fn_slices_Equal_impl_Item_impl_Item [.c (.sl (r1.fst.fst) (r1.fst.snd.fst) (r1.fst.snd.snd)), .c (.sl (r4.fst.fst) (r4.fst.snd.fst) (r4.fst.snd.snd))] false [.c (.bool)] fun r5 =>
        .ite (r5.fst)
        (.call fn_impl_GItems [.agg [.sl (a0p) (a0l) (a0c), .int .i64 (0), .ff], .c (.sl (a1p) (a1l) (a1c))] false [.c (.sl)] fun r6 =>
          .call fn_slices_Equal_impl_Item_impl_Item [.c (.sl (r1.fst.fst) (r1.fst.snd.fst) (r1.fst.snd.snd)), .c (.sl (r6.fst.fst) (r6.fst.snd.fst) (r6.fst.snd.snd))] false [.c (.bool)] fun r7 =>
          .ite (r7.fst)
          (.call fn_laws_aliveB [] false [.c (.bool)] fun r8 =>
            .done .normal [.c (.bool (r8.fst))])
          (.done .normal [.c (.ff)]))
        (.done .normal [.c (.ff)]))
      (.done .normal [.c (.ff)])) [.c (.bool)] fun x9 =>
    .done .ret [.c (.bool (x9.fst))])
theorem den_laws_FnBNews (a0p : Option PA) (a0l : Nat) (a0c : Nat) (a1p : Option PA) (a1l : Nat) (a1c : Nat) : denFn Try.prog Try.f11 [.c (.sl a0p a0l a0c), .c (.sl a1p a1l a1c)] = M_laws_FnBNews a0p a0l a0c a1p a1l a1c := by kernel_rfl
theorem hc_laws_FnBNews (a0p : Option PA) (a0l : Nat) (a0c : Nat) (a1p : Option PA) (a1l : Nat) (a1c : Nat) {h : H} {R : Value → H → Prop} (hw : wp Try.prog (M_laws_FnBNews a0p a0l a0c a1p a1l a1c) (Ret R) h) : HC Try.prog fn_laws_FnBNews (List.map AV.val [.c (.sl a0p a0l a0c), .c (.sl a1p a1l a1c)]).toArray h R :=
  den_calls hmix Try.func11 (of_decide_eq_true rfl) (by rw [den_laws_FnBNews]; exact hw)
section
variable {h : H}
theorem c_New1 {n : PA} {oc : Ck} {o : List Int} (hls : TB.Lss (baF n) oc o) {G : PA → Prop} (hG : Star [] h G) :
    HT Try.prog fn_New [.c (.raw (baF n))] false [.c .ptr] h fun x h' => ∃ post, (∃ m : Nat, x = (some (m, 0), ()) ∧ post = [BtC (baF n) o (TB.dgOf 0) (m, 0) []]) ∧ St h G post h' := by
  apply hc_New
  unfold M_New
  refine w_guard trivial (w_bnd (w_false rfl (bd_n rfl ?_)))
  refine st_callT (St.start hG) [] (fun G hG => TB.c_NewG hls hG) ?_
  rintro _ _ _ ⟨m, rfl, rfl⟩ S
  dsimp only [List.cons_append, List.nil_append] at S
  refine st_alloc S fun b _ S => ?_
  exact rt_1 rfl ⟨_, ⟨b, rfl, rfl⟩, (shut_bt (S.ats [.ow (b, 0), .mp (m, 0)])).only [.mp (b, 0)]⟩
theorem c_New2 {n : PA} {oc : Ck} {o : List Int} (hls : TB.Lss (baF n) oc o) {G : PA → Prop} (hG : Star [] h G) :
    HT Try.prog fn_NewNonConcurrent [.c (.raw (baF n))] false [.c .ptr] h fun x h' => ∃ post, (∃ m : Nat, x = (some (m, 0), ()) ∧ post = [BtC (baF n) o (TB.dgOf 0) (m, 0) []]) ∧ St h G post h' := by
  apply hc_NewNonConcurrent
  unfold M_NewNonConcurrent
  refine w_guard trivial (w_bnd (w_false rfl (bd_n rfl ?_)))
  refine st_callV (St.start hG) [] (args' := [.c (.raw (baF n)), .agg [.int .i64 0, .bool true]]) rfl (fun G hG => TB.c_New hls (by decide) hG) ?_
  rintro _ _ _ ⟨m, rfl, rfl⟩ S
  dsimp only [List.cons_append, List.nil_append] at S
  refine st_alloc S fun b _ S => ?_
  exact rt_1 rfl ⟨_, ⟨b, rfl, rfl⟩, (shut_bt (S.ats [.ow (b, 0), .mp (m, 0)])).only [.mp (b, 0)]⟩
set_option maxHeartbeats 1000000 in
theorem c_BNewI {w : Int} {c : Ck} {o : List Int} {op : Option PA} {on oc : Nat} (hr : Rdr c (op, on, oc) LN o) (hl : o.length ≤ 2147483647) {xs : List IV} {sp : Option PA} {n cap : Nat} (hx : Rdr c (sp, n, cap) LT xs) (hxl : xs.length ≤ 2147483647) {G : PA → Prop} (hG : Star [c] h G) :
    HT Try.prog fn_impl_BNew [.c (.int .i64 w), .c (.sl op on oc), .c (.sl sp n cap)] false [.c .sl] h fun r h' => ∃ post, (∃ s : SlT, r = (s, ()) ∧ OwnL LT s (treeO o xs) ∧ post = [c, SlC s LT.sz (LT.flat (treeO o xs))]) ∧ St h G post h' := by
  apply hc_impl_BNew
  unfold M_impl_BNew
  have hn : n = xs.length := hx.1
  have htl := treeO_len o xs
  refine st_callT (St.start hG) [.ck c] (fun G hG => c_beforeAny hr hl hG) ?_
  rintro _ _ _ ⟨p, f, rfl, rfl⟩ S
  dsimp only [List.cons_append, List.nil_append] at S
  refine w_mid' none (fun (y : SV [.c .ptr]) h' => ∃ m : Nat, y = (some (m, 0), ()) ∧ St h G [c, OaC p f o, BtC (baF p) o (TB.dgOf 0) (m, 0) []] h') ?_ ?_
  · by_cases h1 : w = 1
    · refine w_true (beq_t h1) ?_
      refine st_callT S [] (fun G hG => c_New1 (lss_any (f := f) hl) hG) ?_
      rintro _ _ _ ⟨m, rfl, rfl⟩ S
      dsimp only [List.cons_append, List.nil_append] at S
      exact md_n rfl ⟨m, rfl, S.only [.ck c, .ck (OaC p f o), .mp (m, 0)]⟩
    refine w_false (beq_f h1) ?_
    refine w_mid' none (fun (y : SV [.c .ptr]) h' => ∃ m : Nat, y = (some (m, 0), ()) ∧ St h G [c, OaC p f o, BtC (baF p) o (TB.dgOf 0) (m, 0) []] h') ?_ (fun _ _ ⟨m, e, S⟩ => by subst e; exact md_n rfl ⟨m, rfl, S⟩)
    by_cases h2 : w = 2
    · refine w_true (beq_t h2) ?_
      refine st_callT S [] (fun G hG => c_New2 (lss_any (f := f) hl) hG) ?_
      rintro _ _ _ ⟨m, rfl, rfl⟩ S
      dsimp only [List.cons_append, List.nil_append] at S
      exact md_n rfl ⟨m, rfl, S.only [.ck c, .ck (OaC p f o), .mp (m, 0)]⟩
    · refine w_false (beq_f h2) ?_
      refine st_callV S [] (args' := [.c (.raw (baF p)), .agg [.int .i64 0, .bool false]]) rfl (fun G hG => c_NewO (lss_any (f := f) hl) (by decide) hG) ?_
      rintro _ _ _ ⟨m, rfl, rfl⟩ S
      dsimp only [List.cons_append, List.nil_append] at S
      exact md_n rfl ⟨m, rfl, S.only [.ck c, .ck (OaC p f o), .mp (m, 0)]⟩
  clear S
  rintro _ _ ⟨m, rfl, S⟩
  refine w_mid' (some 1) (fun _ h' => St h G [c, OaC p f o, BtC (baF p) o (TB.dgOf 0) (m, 0) (treeO o xs)] h') ?_ ?_
  · refine w_lp (fun r y h' => ∃ i : Nat, y = ((i : Int), ()) ∧ i + r = n ∧ St h G [c, OaC p f o, BtC (baF p) o (TB.dgOf 0) (m, 0) (treeO o (xs.take i))] h') n rfl ⟨0, rfl, by omega, S⟩ ?_
    clear S
    rintro r _ _ ⟨i, rfl, hi, S⟩
    by_cases hlt : i < n
    · obtain ⟨q, hq, hrd⟩ := hx.ptr (by omega)
      dsimp only at hq
      subst hq
      have hxi := List.getElem?_eq_getElem (show i < xs.length by omega)
      have htl := treeO_len o (xs.take i)
      have htl2 : (xs.take i).length ≤ i := List.length_take_le _ _
      simp only [Int.toNat_natCast, toNat_succ, toNat_succ2, toNat_pred]
      refine w_true (lt_t (by (first | omega | ((try dsimp only [Sh.T, Sh1.T]); omega)))) ?_
      repeat (first | refine w_nonnil ?_ | refine ld_int S rfl ?_ | refine ld_some S rfl ?_ | refine ld_ptr S _ rfl ?_ | refine ld_sls S rfl ?_ | refine ld_nil S rfl ?_ | refine ld_bool S rfl ?_ | refine st_store S (lt_ble rfl) fun _ S => ?_ | refine st_alloc S fun _ _ S => ?_ | refine st_held S rfl ?_ | refine w_guard (by (first | exact inK64 (by omega) (by omega) | omega | (constructor <;> omega) | ((try dsimp only [Sh.T, Sh1.T]); first | exact inK64 (by omega) (by omega) | omega | exact ⟨by decide, inK64 (by omega) (by omega)⟩ | trivial))) ?_ | refine bd_n rfl ?_ | refine bd_e rfl ?_ | refine bd_r ?_ | refine bd_p ?_ | refine ln_r ?_ | refine ln_e ?_ | refine w_true (b := true) rfl ?_ | refine w_false (b := false) rfl ?_ | refine w_item (S.rdr hrd) (by assumption) ?_ | refine h_item (S.rdr hrd) (by assumption) ?_ | refine w_num (S.rdr hro) (by assumption) ?_ | refine ld_sln S rfl ?_ | refine ld_sl S _ _ _ rfl ?_)
      refine st_callB S [.mp (m, 0)] (fun G hG hb => HT.re (args' := [.c (.addr (m, 0)), .c (.raw (anyV xs[i]))]) rfl <| c_BSet (x := xs[i]) (lss_any (f := f) hl) (by omega) (hb (OaC p f o) (by simp)) hG) ?_
      rintro _ _ _ ⟨rfl, rfl⟩ S
      dsimp only [List.cons_append, List.nil_append] at S
      have e : put (ltO o) (treeO o (xs.take i)) xs[i] = treeO o (xs.take (i + 1)) := by rw [take_snoc (by omega), treeO_snoc]
      rw [e] at S
      repeat (first | refine w_nonnil ?_ | refine ld_int S rfl ?_ | refine ld_some S rfl ?_ | refine ld_ptr S _ rfl ?_ | refine ld_sls S rfl ?_ | refine ld_nil S rfl ?_ | refine ld_bool S rfl ?_ | refine st_store S (lt_ble rfl) fun _ S => ?_ | refine st_alloc S fun _ _ S => ?_ | refine st_held S rfl ?_ | refine w_guard (by (first | exact inK64 (by omega) (by omega) | omega | (constructor <;> omega) | ((try dsimp only [Sh.T, Sh1.T]); first | exact inK64 (by omega) (by omega) | omega | exact ⟨by decide, inK64 (by omega) (by omega)⟩ | trivial))) ?_ | refine bd_n rfl ?_ | refine bd_e rfl ?_ | refine bd_r ?_ | refine bd_p ?_ | refine ln_r ?_ | refine ln_e ?_ | refine w_true (b := true) rfl ?_ | refine w_false (b := false) rfl ?_ | refine w_item (S.rdr hrd) (by assumption) ?_ | refine h_item (S.rdr hrd) (by assumption) ?_ | refine w_num (S.rdr hro) (by assumption) ?_ | refine ld_sln S rfl ?_ | refine ld_sl S _ _ _ rfl ?_)
      exact ln_n rfl (r - 1) ⟨i + 1, rfl, by omega, S.only [.ck c, .ck (OaC p f o), .mp (m, 0)]⟩ (by omega)
    · rw [List.take_of_length_le (by omega)] at S
      exact w_false (lt_f (by (first | omega | ((try dsimp only [Sh.T, Sh1.T]); omega)))) (ln_e (md_e rfl S))
  · clear S
    rintro _ _ S
    refine st_callV S [.mp (m, 0)] (args' := [.c (.addr (m, 0))]) rfl (fun G hG => c_allOf (by omega) hG) ?_
    rintro _ _ _ ⟨t, rfl, ht, rfl⟩ S
    dsimp only [List.cons_append, List.nil_append] at S
    exact rt_1 rfl ⟨_, ⟨t, rfl, ht, rfl⟩, S.only [.ck c, .sl t]⟩
theorem c_aliveB {G : PA → Prop} (hG : Star [] h G) : HT Try.prog fn_laws_aliveB [] false [.c .bool] h fun r h' => ∃ post, (r = (true, ()) ∧ post = []) ∧ St h G post h' := by
  apply hc_laws_aliveB
  unfold M_laws_aliveB
  have S := St.start hG
  refine st_callT S [] (fun G hG => c_exMake hG) ?_
  rintro _ _ _ ⟨rfl, rfl⟩ S
  dsimp only [List.cons_append, List.nil_append] at S
  refine st_callT S [] (fun G hG => c_exItems hG) ?_
  rintro _ _ _ ⟨ne, rfl, rfl⟩ S
  dsimp only [List.cons_append, List.nil_append] at S
  refine w_guard ⟨by decide, by show (3 : Int) ≤ ((7 : Nat) : Int); decide⟩ ?_
  have hp := (Rdr.ow (L := LT) (xs := exI) (p := (ne, 0)) (n := 7) (k := 0) rfl).part 0 3 (by decide)
  refine st_callT S [.ow (ne, 0)] (fun G hG => c_BSetI (o := []) Rdr.nil (by decide) (by decide) hp (by decide) hG) ?_
  rintro _ _ _ ⟨s, t, rfl, hs, ht, rfl⟩ S
  dsimp only [List.cons_append, List.nil_append] at S
  have hl : t.2.1 = 3 := ht.1
  refine rt_1 rfl ⟨_, ⟨?_, rfl⟩, (S.dels [.ow (ne, 0), .sl s, .sl t])⟩
  rw [hl]; rfl
end
section
variable {h hI : H} {o : List Int} {op : Option PA} {on oc : Nat} {xs : List IV} {sp : Option PA} {n cap : Nat}
set_option maxHeartbeats 1000000 in
theorem c_FnBNews (hr : Rdr (BaC hI) (op, on, oc) LN o) (hx : Rdr (BaC hI) (sp, n, cap) LT xs) {G : PA → Prop} (hG : Star [BaC hI] h G) :
    HT Try.prog fn_laws_FnBNews [.c (.sl op on oc), .c (.sl sp n cap)] false [.c .bool] h fun r h' => ∃ post, (r = (true, ()) ∧ post = [BaC hI]) ∧ St h G post h' := by
  apply hc_laws_FnBNews
  unfold M_laws_FnBNews
  have hno : on = o.length := hr.1
  have hn : n = xs.length := hx.1
  have htl := treeO_len o xs
  have S := St.start hG
  refine w_mid' none (fun (y : SV [.c .bool]) h' => (y = (true, ()) ∨ y = (false, ()) ∧ on ≤ 2147483647 ∧ n ≤ 2147483647) ∧ St h G [BaC hI] h') ?_ ?_
  · by_cases hbo : on > 2147483647
    · exact w_true (decide_eq_true (by omega)) (md_n rfl ⟨.inl rfl, S⟩)
    refine w_false (decide_eq_false (by omega)) ?_
    by_cases hbn : n > 2147483647
    · exact md_n (x := (true, ())) (by rw [decide_eq_true (by omega)]; rfl) ⟨.inl rfl, S⟩
    exact md_n (x := (false, ())) (by rw [decide_eq_false (by omega)]; rfl) ⟨.inr ⟨rfl, by omega, by omega⟩, S⟩
  clear S
  rintro _ _ ⟨rfl | ⟨rfl, hz0, hz1⟩, S⟩
  · exact w_true rfl (rt_1 rfl ⟨_, ⟨rfl, rfl⟩, S⟩)
  refine w_false rfl ?_
  have hlo : o.length ≤ 2147483647 := by omega
  have hlx : xs.length ≤ 2147483647 := by omega
  have hlt : (treeO o xs).length ≤ 4294967296 := by omega
  refine st_callT S [.ck (BaC hI)] (fun G hG => c_BNewI hr hlo hx hlx hG) ?_
  rintro _ _ _ ⟨s1, rfl, hs1, rfl⟩ S
  dsimp only [List.cons_append, List.nil_append] at S
  refine w_mid' none (fun (y : SV [.c .bool]) h' => y = (true, ()) ∧ St h G [BaC hI] h') ?_ (fun _ _ ⟨e, S⟩ => by subst e; exact rt_1 rfl ⟨_, ⟨rfl, rfl⟩, S⟩)
  refine st_callT S [.ck (BaC hI)] (fun G hG => c_BNewI hr hlo hx hlx hG) ?_
  rintro _ _ _ ⟨s2, rfl, hs2, rfl⟩ S
  dsimp only [List.cons_append, List.nil_append] at S
  refine st_eqT S (.sl s1) (.sl s2) hs1.rdr hs2.rdr hlt fun _ S => w_true (by simp) ?_
  refine st_callT S [.ck (BaC hI)] (fun G hG => c_BNewI hr hlo hx hlx hG) ?_
  rintro _ _ _ ⟨s3, rfl, hs3, rfl⟩ S
  dsimp only [List.cons_append, List.nil_append] at S
  refine st_eqT S (.sl s1) (.sl s3) hs1.rdr hs3.rdr hlt fun _ S => w_true (by simp) ?_
  refine st_callV S [.ck (BaC hI)] (args' := [.agg [.sl op on oc, .int .i64 0, .bool false], .c (.sl sp n cap)]) rfl (fun G hG => c_GItems hr hlo (by decide) hx hlx hG) ?_
  rintro _ _ _ ⟨s4, rfl, hs4, rfl⟩ S
  dsimp only [List.cons_append, List.nil_append] at S
  refine st_eqT S (.sl s1) (.sl s4) hs1.rdr hs4.rdr hlt fun _ S => w_true (by simp) ?_
  refine st_callT S [] (fun G hG => c_aliveB hG) ?_
  rintro _ _ _ ⟨rfl, rfl⟩ S
  dsimp only [List.cons_append, List.nil_append] at S
  exact md_n rfl ⟨rfl, S.only [.ck (BaC hI)]⟩
end
end Go.Proofs.Ytlhbdmjeomffhaa
