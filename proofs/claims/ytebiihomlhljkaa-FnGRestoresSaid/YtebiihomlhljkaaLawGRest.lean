/-
  The law FnGRestores: its script, and the law. Conditions: none.
-/
import Derived.Test.YtebiihomlhljkaaLawGRestA
set_option linter.unusedVariables false
set_option linter.unusedSimpArgs false
set_option linter.unusedSectionVars false
set_option maxRecDepth 100000
namespace Go.Proofs.Ytebiihomlhljkaa
open Go
def M_laws_FnGRestores (a00p : Option PA) (a00l : Nat) (a00c : Nat) (a01 : Int) (a02 : Bool) (a1p : Option PA) (a1l : Nat) (a1c : Nat) (a2p : Option PA) (a2l : Nat) (a2c : Nat) : M :=
  .alloc ty_impl_Make [.sl (a00p) (a00l) (a00c), .int .i64 (a01), .bool (a02)] fun n0 =>
  .bind none (.load (n0, 0) (.sl) fun s1 =>
    .load (n0, 1) (.int .i64) fun i2 =>
    .load (n0, 2) (.bool) fun b3 =>
    .call fn_laws_zzFits1 [.agg [.sl (s1.fst) (s1.snd.fst) (s1.snd.snd), .int .i64 (i2), .bool (b3)]] false [.c (.bool)] fun r4 =>
    .ite (!r4.fst)
    (.done .normal [.c (.tt)])
    (.ite (decide ((↑a1l : Int) > 2147483647))
      (.done .normal [.c (.tt)])
      (.done .normal [.c (.bool (decide ((↑a2l : Int) > 2147483647)))]))) [.c (.bool)] fun x5 =>
  .ite (x5.fst)
  (.done .ret [.c (.tt)])
  (.load (n0, 0) (.sl) fun s6 =>
    .load (n0, 1) (.int .i64) fun i7 =>
    .load (n0, 2) (.bool) fun b8 =>
    .call fn_laws_fits [.agg [.sl (s6.fst) (s6.snd.fst) (s6.snd.snd), .int .i64 (i7), .bool (b8)]] false [.c (.bool)] fun r9 =>
    .ite (!r9.fst)
    (.call fn_laws_alive [] false [.c (.bool)] fun r10 =>
      .done .ret [.c (.bool (r10.fst))])
    (.load (n0, 0) (.sl) fun s11 =>
      .load (n0, 1) (.int .i64) fun i12 =>
      .load (n0, 2) (.bool) fun b13 =>
      .call fn_impl_GDelete [.agg [.sl (s11.fst) (s11.snd.fst) (s11.snd.snd), .int .i64 (i12), .bool (b13)], .c (.sl (a1p) (a1l) (a1c)), .c (.sl (a2p) (a2l) (a2c))] true [.c (.sl), .c (.sl)] fun r14 =>
      .bind (some 0) (.loop [.c (.int .i64), .c (.sl)] [.c (.int .i64 (0)), .c (.sl none (0) (0))] fun y15 =>
          .ite (decide (y15.fst < (↑a1l : Int)))
          (.nonnil (a1p) fun p16 =>
            .guard (((0 : Int) ≤ y15.fst) ∧ ((y15.fst : Int) < (↑a1l : Int))) <|
            .load (p16.fst, p16.snd + mulN (Int.toNat y15.fst) 2) (.int .i64) fun i17 =>
            .load (p16.fst, p16.snd + mulN (Int.toNat y15.fst) 2 + 1) (.int .i64) fun i18 =>
            .alloc ty_impl_Item [.int .i64 (0), .int .i64 (0)] fun n19 =>
            .store (n19, 0) (.int .i64 (i17)) <|
            .store (n19, 1) (.int .i64 (i18)) <|
            .load (n19, 0) (.int .i64) fun i20 =>
            .load (n19, 1) (.int .i64) fun i21 =>
            .alloc ty_impl_Step [.int .i64 (0), .int .i64 (0), .int .i64 (i20), .int .i64 (i21), .int .i64 (0), .int .i64 (0), .int .i64 (0), .ff, .ff] fun n22 =>
            .append ty_impl_Step 9 64 [.int .i64 (0), .int .i64 (0), .int .i64 (0), .int .i64 (0), .int .i64 (0), .int .i64 (0), .int .i64 (0), .ff, .ff] ((y15.snd.fst.fst), y15.snd.fst.snd.fst, y15.snd.fst.snd.snd) ((some (n22, 0)), 1, 1) fun s23 =>
            .guard (InK IntKind.i64 (y15.fst + 1)) <|
            .done .normal [.c (.int .i64 (y15.fst + 1)), .c (.sl (s23.fst) (s23.snd.fst) (s23.snd.snd))])
          (.done (.exit 0) [.c (.sl (y15.snd.fst.fst) (y15.snd.fst.snd.fst) (y15.snd.fst.snd.snd))])) [.c (.sl)] fun x24 =>
      .bind (some 2) (.loop [.c (.int .i64), .c (.sl)] [.c (.int .i64 (0)), .c (.sl (x24.fst.fst) (x24.fst.snd.fst) (x24.fst.snd.snd))] fun y25 =>
          .ite (decide (y25.fst < (↑a2l : Int)))
          (.nonnil (a2p) fun p26 =>
            .guard (((0 : Int) ≤ y25.fst) ∧ ((y25.fst : Int) < (↑a2l : Int))) <|
            .load (p26.fst, p26.snd + mulN (Int.toNat y25.fst) 2) (.int .i64) fun i27 =>
            .load (p26.fst, p26.snd + mulN (Int.toNat y25.fst) 2 + 1) (.int .i64) fun i28 =>
            .alloc ty_impl_Item [.int .i64 (0), .int .i64 (0)] fun n29 =>
            .store (n29, 0) (.int .i64 (i27)) <|
            .store (n29, 1) (.int .i64 (i28)) <|
            .load (n29, 0) (.int .i64) fun i30 =>
            .load (n29, 1) (.int .i64) fun i31 =>
            .alloc ty_impl_Step [.int .i64 (3), .int .i64 (0), .int .i64 (i30), .int .i64 (i31), .int .i64 (0), .int .i64 (0), .int .i64 (0), .ff, .ff] fun n32 =>
            .append ty_impl_Step 9 64 [.int .i64 (0), .int .i64 (0), .int .i64 (0), .int .i64 (0), .int .i64 (0), .int .i64 (0), .int .i64 (0), .ff, .ff] ((y25.snd.fst.fst), y25.snd.fst.snd.fst, y25.snd.fst.snd.snd) ((some (n32, 0)), 1, 1) fun s33 =>
            .guard (InK IntKind.i64 (y25.fst + 1)) <|
            .done .normal [.c (.int .i64 (y25.fst + 1)), .c (.sl (s33.fst) (s33.snd.fst) (s33.snd.snd))])
          (.done (.exit 2) [.c (.sl (y25.snd.fst.fst) (y25.snd.fst.snd.fst) (y25.snd.fst.snd.snd))])) [.c (.sl)] fun x34 =>
      .bind (some 4) (.loop [.c (.int .i64), .c (.sl)] [.c (.int .i64 (0)), .c (.sl (x34.fst.fst) (x34.fst.snd.fst) (x34.fst.snd.snd))] fun y35 =>
          .ite (decide (y35.fst < (↑r14.fst.snd.fst : Int)))
          (.nonnil (r14.fst.fst) fun p36 =>
            .guard (((0 : Int) ≤ y35.fst) ∧ ((y35.fst : Int) < (↑r14.fst.snd.fst : Int))) <|
            .load (p36.fst, p36.snd + mulN (Int.toNat y35.fst) 3) (.int .i64) fun i37 =>
            .load (p36.fst, p36.snd + mulN (Int.toNat y35.fst) 3 + 1) (.int .i64) fun i38 =>
            .load (p36.fst, p36.snd + mulN (Int.toNat y35.fst) 3 + 2) (.bool) fun b39 =>
            .alloc ty_impl_Found [.int .i64 (0), .int .i64 (0), .ff] fun n40 =>
            .store (n40, 0) (.int .i64 (i37)) <|
            .store (n40, 1) (.int .i64 (i38)) <|
            .store (n40, 2) (.bool (b39)) <|
            .load (n40, 2) (.bool) fun b41 =>
            .bind none (.ite (b41)
              (.load (n40, 0) (.int .i64) fun i42 =>
                .load (n40, 1) (.int .i64) fun i43 =>
                .alloc ty_impl_Step [.int .i64 (0), .int .i64 (0), .int .i64 (i42), .int .i64 (i43), .int .i64 (0), .int .i64 (0), .int .i64 (0), .ff, .ff] fun n44 =>
                .append ty_impl_Step 9 64 [.int .i64 (0), .int .i64 (0), .int .i64 (0), .int .i64 (0), .int .i64 (0), .int .i64 (0), .int .i64 (0), .ff, .ff] ((y35.snd.fst.fst), y35.snd.fst.snd.fst, y35.snd.fst.snd.snd) ((some (n44, 0)), 1, 1) fun s45 =>
                .done .normal [.c (.sl (s45.fst) (s45.snd.fst) (s45.snd.snd))])
              (.done .normal [.c (.sl (y35.snd.fst.fst) (y35.snd.fst.snd.fst) (y35.snd.fst.snd.snd))])) [.c (.sl)] fun x46 =>
            .guard (InK IntKind.i64 (y35.fst + 1)) <|
            .done .normal [.c (.int .i64 (y35.fst + 1)), .c (.sl (x46.fst.fst) (x46.fst.snd.fst) (x46.fst.snd.snd))])
          (.done (.exit 4) [.c (.sl (y35.snd.fst.fst) (y35.snd.fst.snd.fst) (y35.snd.fst.snd.snd))])) [.c (.sl)] fun x47 =>
      .load (n0, 0) (.sl) fun s48 =>
      .load (n0, 1) (.int .i64) fun i49 =>
      .load (n0, 2) (.bool) fun b50 =>
      .call fn_impl_GScript [.agg [.sl (s48.fst) (s48.snd.fst) (s48.snd.snd), .int .i64 (i49), .bool (b50)], .c (.sl (x47.fst.fst) (x47.fst.snd.fst) (x47.fst.snd.snd))] true [.c (.sl), .c (.sl)] fun r51 =>
      .bind none (.ite ((↑r51.snd.fst.snd.fst : Int) == 1)
        (.nonnil (r51.snd.fst.fst) fun p52 =>
          .guard (((0 : Int) ≤ 0) ∧ ((0 : Int) < (↑r51.snd.fst.snd.fst : Int))) <|
          .load (p52.fst, p52.snd) (.sl) fun s53 =>
          .load (n0, 0) (.sl) fun s54 =>
          .load (n0, 1) (.int .i64) fun i55 =>
          .load (n0, 2) (.bool) fun b56 =>
          .call fn_impl_GItems [.agg [.sl (s54.fst) (s54.snd.fst) (s54.snd.snd), .int .i64 (i55), .bool (b56)], .c (.sl (a1p) (a1l) (a1c))] false [.c (.sl)] fun r57 =>
          .held (p52.fst, p52.snd) (.sl (s53.fst) (s53.snd.fst) (s53.snd.snd)) <|
          .call fn_slices_Equal_impl_Item_impl_Item [.c (.sl (s53.fst) (s53.snd.fst) (s53.snd.snd)), .c (.sl (r57.fst.fst) (r57.fst.snd.fst) (r57.fst.snd.snd))] false [.c (.bool)] fun r58 =>
          .ite (r58.fst)
          (.call fn_laws_alive [] false [.c (.bool)] fun r59 =>
            .done .normal [.c (.bool (r59.fst))])
          (.done .normal [.c (.ff)]))
        (.done .normal [.c (.ff)])) [.c (.bool)] fun x60 =>
      .done .ret [.c (.bool (x60.fst))]))
theorem den_laws_FnGRestores (a00p : Option PA) (a00l : Nat) (a00c : Nat) (a01 : Int) (a02 : Bool) (a1p : Option PA) (a1l : Nat) (a1c : Nat) (a2p : Option PA) (a2l : Nat) (a2c : Nat) : denFn Try.prog Try.f3 [.agg [.sl a00p a00l a00c, .int .i64 a01, .bool a02], .c (.sl a1p a1l a1c), .c (.sl a2p a2l a2c)] = M_laws_FnGRestores a00p a00l a00c a01 a02 a1p a1l a1c a2p a2l a2c := by kernel_rfl
theorem hc_laws_FnGRestores (a00p : Option PA) (a00l : Nat) (a00c : Nat) (a01 : Int) (a02 : Bool) (a1p : Option PA) (a1l : Nat) (a1c : Nat) (a2p : Option PA) (a2l : Nat) (a2c : Nat) {h : H} {R : Value → H → Prop} (hw : wp Try.prog (M_laws_FnGRestores a00p a00l a00c a01 a02 a1p a1l a1c a2p a2l a2c) (Ret R) h) : HC Try.prog fn_laws_FnGRestores (List.map AV.val [.agg [.sl a00p a00l a00c, .int .i64 a01, .bool a02], .c (.sl a1p a1l a1c), .c (.sl a2p a2l a2c)]).toArray h R :=
  den_calls hmix Try.func3 (of_decide_eq_true rfl) (by rw [den_laws_FnGRestores]; exact hw)
section
variable {h : H}
def scrR (xs ks F : List IV) : List (Bool × IV) := xs.map (fun x => (false, x)) ++ ks.map (fun x => (true, x)) ++ F.map (fun x => (false, x))
theorem scrR_fold (o : List Int) (xs ks F : List IV) : (scrR xs ks F).foldl (stepR o) [] = F.foldl (put (ltO o)) (delR o (treeO o xs) ks) := by
  unfold scrR
  rw [List.foldl_append, List.foldl_append, List.foldl_map, List.foldl_map, List.foldl_map]
  rfl
theorem scrR_take (o : List Int) (xs ks F : List IV) (i : Nat) : (((scrR xs ks F).take i).foldl (stepR o) []).length ≤ xs.length + F.length := by
  refine Nat.le_trans (script_len o _ _) ?_
  have h1 := (List.take_sublist i (scrR xs ks F)).countP_le (p := fun s : Bool × IV => !s.1)
  have h2 : (scrR xs ks F).countP (fun s => !s.1) = xs.length + F.length := by
    unfold scrR
    rw [List.countP_append, List.countP_append, List.countP_map, List.countP_map, List.countP_map]
    have e1 : ∀ l : List IV, l.countP ((fun s : Bool × IV => !s.1) ∘ fun x => (false, x)) = l.length := fun l => by
      rw [List.countP_eq_length]; intro a _; rfl
    have e2 : ∀ l : List IV, l.countP ((fun s : Bool × IV => !s.1) ∘ fun x => (true, x)) = 0 := fun l => by
      rw [List.countP_eq_zero]; intro a _; simp
    rw [e1, e1, e2]; omega
  simp only [List.length_nil]
  omega
set_option maxHeartbeats 4000000 in
theorem c_FnGRestores {hI : H} {o : List Int} {op : Option PA} {on oc : Nat} (hr : Rdr (BaC hI) (op, on, oc) LN o) {d : Int} {nl : Bool} {xs : List IV} {sp : Option PA} {n cap : Nat} (hx : Rdr (BaC hI) (sp, n, cap) LT xs) {ks : List IV} {kp : Option PA} {kn kc : Nat} (hk : Rdr (BaC hI) (kp, kn, kc) LT ks) {G : PA → Prop} (hG : Star [BaC hI] h G) :
    HT Try.prog fn_laws_FnGRestores [.agg [.sl op on oc, .int .i64 d, .bool nl], .c (.sl sp n cap), .c (.sl kp kn kc)] false [.c .bool] h fun r h' => ∃ post, (r = (true, ()) ∧ post = [BaC hI]) ∧ St h G post h' := by
  apply hc_laws_FnGRestores
  unfold M_laws_FnGRestores
  have hn : n = xs.length := hx.1
  have hkn : kn = ks.length := hk.1
  have htl := treeO_len o xs
  have hst := treeO_srt o xs
  have hno : on = o.length := hr.1
  refine st_alloc (St.start hG) fun n0 _ S => ?_
  refine w_mid' none (fun (y : SV [.c .bool]) h' => (y = (true, ()) ∨ y = (false, ()) ∧ on ≤ 2147483647 ∧ n ≤ 2147483647 ∧ kn ≤ 2147483647) ∧ St h G [Ow (n0, 0) (List.map Cell.val [.sl op on oc, .int .i64 d, .bool nl]) 0, BaC hI] h') ?_ ?_
  · refine ld_sl S op on oc rfl (ld_int S rfl (ld_bool S rfl ?_))
    refine st_callT S [] (fun G hG => c_zzFits1 hG) ?_
    rintro _ _ _ ⟨rfl, rfl⟩ S
    dsimp only [List.cons_append, List.nil_append] at S
    by_cases hbo : on > 2147483647
    · exact w_true (by rw [decide_eq_false (by (first | omega | ((try dsimp only [Sh.T, Sh1.T]); omega)))]; rfl) (md_n rfl ⟨.inl rfl, S.only [.ow (n0, 0), .ck (BaC hI)]⟩)
    refine w_false (by rw [decide_eq_true (by (first | omega | ((try dsimp only [Sh.T, Sh1.T]); omega)))]; rfl) ?_
    by_cases hb0 : n > 2147483647
    · exact w_true (decide_eq_true (by omega)) (md_n rfl ⟨.inl rfl, S.only [.ow (n0, 0), .ck (BaC hI)]⟩)
    refine w_false (decide_eq_false (by omega)) ?_
    by_cases hb1 : kn > 2147483647
    · exact md_n (x := (true, ())) (by rw [decide_eq_true (by omega)]; rfl) ⟨.inl rfl, S.only [.ow (n0, 0), .ck (BaC hI)]⟩
    exact md_n (x := (false, ())) (by rw [decide_eq_false (by omega)]; rfl) ⟨.inr ⟨rfl, by omega, by omega, by omega⟩, S.only [.ow (n0, 0), .ck (BaC hI)]⟩
  rintro _ _ ⟨rfl | ⟨rfl, hz0, hz1, hz2⟩, S⟩
  · exact w_true rfl (rt_1 rfl ⟨_, ⟨rfl, rfl⟩, S.only [.ck (BaC hI)]⟩)
  refine w_false rfl ?_
  refine ld_sl S op on oc rfl (ld_int S rfl (ld_bool S rfl ?_))
  refine st_callT S [] (fun G hG => c_fits hG) ?_
  rintro _ _ _ ⟨rfl, rfl⟩ S
  dsimp only [List.cons_append, List.nil_append] at S
  by_cases hf : d = 0 ∨ 2 ≤ d ∧ d ≤ 128
  case neg =>
    refine w_true (by rw [decide_eq_false hf]; rfl) ?_
    refine st_callT S [] (fun G hG => c_alive hG) ?_
    rintro _ _ _ ⟨rfl, rfl⟩ S
    dsimp only [List.cons_append, List.nil_append] at S
    exact rt_1 rfl ⟨_, ⟨rfl, rfl⟩, S.only [.ck (BaC hI)]⟩
  refine w_false (by rw [decide_eq_true hf]; rfl) ?_
  (refine ld_sl S op on oc rfl (ld_int S rfl (ld_bool S rfl ?_)))
  refine st_callT S [.ck (BaC hI)] (fun G hG => c_GDeleteI hr (by omega) (by omega) hx (by omega) hk (by omega) hG) ?_
  rintro _ _ _ ⟨s0, t0, rfl, hs0, ht0, rfl⟩ S
  dsimp only [List.cons_append, List.nil_append] at S
  have hFl : ((delF o (treeO o xs) ks).filterMap id).length ≤ ks.length := by
    have := List.length_filterMap_le id (delF o (treeO o xs) ks)
    rw [delF_len] at this; exact this
  have S := S.only [.ck (BaC hI), .ow (n0, 0), .sl s0]
  have S := sl_nil LS S
  refine w_mid' (some 0) (fun (y : SV [.c .sl]) h' => ∃ s : SlT, y = (s, ()) ∧ OwnL LS s (xs.map (fun x => (false, x))) ∧ St h G [BaC hI, Ow (n0, 0) (List.map Cell.val [.sl op on oc, .int .i64 d, .bool nl]) 0, SlC s0 LF.sz (LF.flat (delF o (treeO o xs) ks)), SlC s LS.sz (LS.flat (xs.map (fun x => (false, x))))] h') ?_ ?_
  · refine w_lp (fun r y h' => ∃ (i : Nat) (s : SlT), y = ((i : Int), s, ()) ∧ i + r = n ∧ OwnL LS s ((xs.take i).map (fun x => (false, x))) ∧ St h G [BaC hI, Ow (n0, 0) (List.map Cell.val [.sl op on oc, .int .i64 d, .bool nl]) 0, SlC s0 LF.sz (LF.flat (delF o (treeO o xs) ks)), SlC s LS.sz (LS.flat ((xs.take i).map (fun x => (false, x))))] h') n rfl
      ⟨0, (none, 0, 0), rfl, by omega, ⟨rfl, Nat.le_refl _, .inl rfl⟩, S.only [.ck (BaC hI), .ow (n0, 0), .sl s0, .sl (none, 0, 0)]⟩ ?_
    clear S
    rintro r _ _ ⟨i, s, rfl, hi, hs, S⟩
    by_cases hlt : i < n
    · obtain ⟨p, hp, hrd⟩ := hx.ptr (by omega)
      dsimp only at hp
      subst hp
      have hxi := List.getElem?_eq_getElem (show i < xs.length by omega)
      have hsl : ((xs.take i).map (fun x => (false, x))).length = i := by rw [List.length_map, List.length_take]; omega
      obtain ⟨s1, s2, s3⟩ := s
      simp only [Int.toNat_natCast, toNat_succ, toNat_succ2, toNat_pred]
      refine w_true (lt_t (by (first | omega | ((try dsimp only [Sh.T, Sh1.T]); omega)))) (w_nonnil (w_guard ⟨by (first | omega | ((try dsimp only [Sh.T, Sh1.T]); omega)), by (first | omega | ((try dsimp only [Sh.T, Sh1.T]); omega))⟩ (w_item (S.rdr hrd) hxi ?_)))
      refine st_alloc S fun n19 _ S => ?_
      refine st_store S (lt_ble rfl) fun _ S => ?_
      refine st_store S (lt_ble rfl) fun _ S => ?_
      refine ld_int S rfl (ld_int S rfl ?_)
      refine st_alloc S fun n22 _ S => ?_
      refine st_apo (L := LS) (xs := (xs.take i).map (fun x => (false, x))) (y := (false, xs[i])) S hs rfl rfl (S.rsl (LS.flat [(false, xs[i])]) 1 1 9 (fun i v h => by rw [Nat.zero_add]; exact h) rfl) ⟨by omega, by omega⟩ fun s' _ hs' S => ?_
      have e : (xs.take i).map (fun x => (false, x)) ++ [(false, xs[i])] = (xs.take (i + 1)).map (fun x => (false, x)) := by rw [take_snoc (by omega), List.map_append]; rfl
      rw [e] at hs' S
      refine w_guard (inK64 (by (first | omega | ((try dsimp only [Sh.T, Sh1.T]); omega))) (by (first | omega | ((try dsimp only [Sh.T, Sh1.T]); omega)))) ?_
      exact ln_n rfl (r - 1) ⟨i + 1, s', rfl, by omega, hs', S.only [.ck (BaC hI), .ow (n0, 0), .sl s0, .sl s']⟩ (by omega)
    · rw [List.take_of_length_le (by omega)] at hs S
      exact w_false (lt_f (by (first | omega | ((try dsimp only [Sh.T, Sh1.T]); omega)))) (ln_e (md_e rfl ⟨s, rfl, hs, S⟩))
  clear S
  rintro _ _ ⟨sa, rfl, hsa, S⟩
  refine w_mid' (some 2) (fun (y : SV [.c .sl]) h' => ∃ s : SlT, y = (s, ()) ∧ OwnL LS s (xs.map (fun x => (false, x)) ++ ks.map (fun x => (true, x))) ∧ St h G [BaC hI, Ow (n0, 0) (List.map Cell.val [.sl op on oc, .int .i64 d, .bool nl]) 0, SlC s0 LF.sz (LF.flat (delF o (treeO o xs) ks)), SlC s LS.sz (LS.flat (xs.map (fun x => (false, x)) ++ ks.map (fun x => (true, x))))] h') ?_ ?_
  · refine w_lp (fun r y h' => ∃ (i : Nat) (s : SlT), y = ((i : Int), s, ()) ∧ i + r = kn ∧ OwnL LS s (xs.map (fun x => (false, x)) ++ (ks.take i).map (fun x => (true, x))) ∧ St h G [BaC hI, Ow (n0, 0) (List.map Cell.val [.sl op on oc, .int .i64 d, .bool nl]) 0, SlC s0 LF.sz (LF.flat (delF o (treeO o xs) ks)), SlC s LS.sz (LS.flat (xs.map (fun x => (false, x)) ++ (ks.take i).map (fun x => (true, x))))] h') kn rfl
      ⟨0, sa, rfl, by omega, by simpa using hsa, by simpa using S⟩ ?_
    clear S
    rintro r _ _ ⟨i, s, rfl, hi, hs, S⟩
    by_cases hlt : i < kn
    · obtain ⟨p, hp, hrd⟩ := hk.ptr (by omega)
      dsimp only at hp
      subst hp
      have hxi := List.getElem?_eq_getElem (show i < ks.length by omega)
      have hsl : (xs.map (fun x => (false, x)) ++ (ks.take i).map (fun x => (true, x))).length = xs.length + i := by rw [List.length_append, List.length_map, List.length_map, List.length_take]; omega
      obtain ⟨s1, s2, s3⟩ := s
      simp only [Int.toNat_natCast, toNat_succ, toNat_succ2, toNat_pred]
      refine w_true (lt_t (by (first | omega | ((try dsimp only [Sh.T, Sh1.T]); omega)))) (w_nonnil (w_guard ⟨by (first | omega | ((try dsimp only [Sh.T, Sh1.T]); omega)), by (first | omega | ((try dsimp only [Sh.T, Sh1.T]); omega))⟩ (w_item (S.rdr hrd) hxi ?_)))
      refine st_alloc S fun n19 _ S => ?_
      refine st_store S (lt_ble rfl) fun _ S => ?_
      refine st_store S (lt_ble rfl) fun _ S => ?_
      refine ld_int S rfl (ld_int S rfl ?_)
      refine st_alloc S fun n22 _ S => ?_
      refine st_apo (L := LS) (xs := xs.map (fun x => (false, x)) ++ (ks.take i).map (fun x => (true, x))) (y := (true, ks[i])) S hs rfl rfl (S.rsl (LS.flat [(true, ks[i])]) 1 1 9 (fun i v h => by rw [Nat.zero_add]; exact h) rfl) ⟨by omega, by omega⟩ fun s' _ hs' S => ?_
      have e : xs.map (fun x => (false, x)) ++ (ks.take i).map (fun x => (true, x)) ++ [(true, ks[i])] = xs.map (fun x => (false, x)) ++ (ks.take (i + 1)).map (fun x => (true, x)) := by rw [take_snoc (by omega), List.map_append, List.append_assoc]; rfl
      rw [e] at hs' S
      refine w_guard (inK64 (by (first | omega | ((try dsimp only [Sh.T, Sh1.T]); omega))) (by (first | omega | ((try dsimp only [Sh.T, Sh1.T]); omega)))) ?_
      exact ln_n rfl (r - 1) ⟨i + 1, s', rfl, by omega, hs', S.only [.ck (BaC hI), .ow (n0, 0), .sl s0, .sl s']⟩ (by omega)
    · rw [List.take_of_length_le (by omega)] at hs S
      exact w_false (lt_f (by (first | omega | ((try dsimp only [Sh.T, Sh1.T]); omega)))) (ln_e (md_e rfl ⟨s, rfl, hs, S⟩))
  clear S
  rintro _ _ ⟨sb, rfl, hsb, S⟩
  have hs0n : s0.2.1 = ks.length := by rw [hs0.1, delF_len]
  refine w_mid' (some 4) (fun (y : SV [.c .sl]) h' => ∃ s : SlT, y = (s, ()) ∧ OwnL LS s (scrR xs ks ((delF o (treeO o xs) ks).filterMap id)) ∧ St h G [BaC hI, Ow (n0, 0) (List.map Cell.val [.sl op on oc, .int .i64 d, .bool nl]) 0, SlC s LS.sz (LS.flat (scrR xs ks ((delF o (treeO o xs) ks).filterMap id)))] h') ?_ ?_
  · refine w_lp (fun r y h' => ∃ (i : Nat) (s : SlT), y = ((i : Int), s, ()) ∧ i + r = ks.length ∧ OwnL LS s (scrR xs ks (((delF o (treeO o xs) ks).take i).filterMap id)) ∧ St h G [BaC hI, Ow (n0, 0) (List.map Cell.val [.sl op on oc, .int .i64 d, .bool nl]) 0, SlC s0 LF.sz (LF.flat (delF o (treeO o xs) ks)), SlC s LS.sz (LS.flat (scrR xs ks (((delF o (treeO o xs) ks).take i).filterMap id)))] h') ks.length rfl
      ⟨0, sb, rfl, by omega, by simpa [scrR] using hsb, by simpa [scrR] using S⟩ ?_
    clear S
    rintro r _ _ ⟨i, s, rfl, hi, hs, S⟩
    by_cases hlt : i < ks.length
    · have hdl := delF_len o (treeO o xs) ks
      obtain ⟨p, hp, hrd⟩ := hs0.rdr.ptr (by omega)
      have hxi := List.getElem?_eq_getElem (show i < (delF o (treeO o xs) ks).length by omega)
      have htk := take_snoc (show i < (delF o (treeO o xs) ks).length by omega)
      have hfl : (((delF o (treeO o xs) ks).take i).filterMap id).length ≤ i := by
        have := List.length_filterMap_le id ((delF o (treeO o xs) ks).take i)
        rw [List.length_take] at this; omega
      have hsl : (scrR xs ks (((delF o (treeO o xs) ks).take i).filterMap id)).length = xs.length + ks.length + (((delF o (treeO o xs) ks).take i).filterMap id).length := by unfold scrR; simp; omega
      generalize (delF o (treeO o xs) ks)[i] = w at hxi htk
      obtain ⟨s1, s2, s3⟩ := s
      obtain ⟨u1, u2, u3⟩ := s0
      dsimp only at hp hs0n
      subst hp
      simp only [Int.toNat_natCast, toNat_succ, toNat_succ2, toNat_pred]
      have hrd2 := S.fct (.sl (some p, u2, u3))
      obtain ⟨F2, hF2⟩ := hrd2
      refine w_true (lt_t (by (first | omega | ((try dsimp only [Sh.T, Sh1.T]); omega)))) (w_nonnil (w_guard ⟨by (first | omega | ((try dsimp only [Sh.T, Sh1.T]); omega)), by (first | omega | ((try dsimp only [Sh.T, Sh1.T]); omega))⟩ (w_fnd (hrd _ F2 hF2) hxi ?_)))
      refine st_alloc S fun n40 _ S => ?_
      refine st_store S (lt_ble rfl) fun _ S => ?_
      refine st_store S (lt_ble rfl) fun _ S => ?_
      refine st_store S (lt_ble rfl) fun _ S => ?_
      refine ld_bool S rfl ?_
      refine w_mid' none (fun (y : SV [.c .sl]) h' => ∃ s : SlT, y = (s, ()) ∧ OwnL LS s (scrR xs ks (((delF o (treeO o xs) ks).take (i + 1)).filterMap id)) ∧ St h G [BaC hI, Ow (n0, 0) (List.map Cell.val [.sl op on oc, .int .i64 d, .bool nl]) 0, SlC (some p, u2, u3) LF.sz (LF.flat (delF o (treeO o xs) ks)), SlC s LS.sz (LS.flat (scrR xs ks (((delF o (treeO o xs) ks).take (i + 1)).filterMap id)))] h') ?_ ?_
      · rw [htk, List.filterMap_append]
        cases w with
        | none =>
          refine w_false rfl (md_n rfl ⟨(s1, s2, s3), rfl, ?_, ?_⟩)
          · simpa using hs
          · have S := S.only [.ck (BaC hI), .ow (n0, 0), .sl (some p, u2, u3), .sl (s1, s2, s3)]
            simpa using S
        | some w =>
          refine w_true rfl (ld_int S rfl (ld_int S rfl ?_))
          refine st_alloc S fun n44 _ S => ?_
          refine st_apo (L := LS) (xs := scrR xs ks (((delF o (treeO o xs) ks).take i).filterMap id)) (y := (false, w)) S hs rfl rfl (S.rsl (LS.flat [(false, w)]) 1 1 9 (fun i v h => by rw [Nat.zero_add]; exact h) rfl) ⟨by omega, by omega⟩ fun s' _ hs' S => ?_
          have e : scrR xs ks (((delF o (treeO o xs) ks).take i).filterMap id) ++ [(false, w)] = scrR xs ks (((delF o (treeO o xs) ks).take i).filterMap id ++ [some w].filterMap id) := by unfold scrR; simp
          rw [e] at hs' S
          exact md_n rfl ⟨s', rfl, hs', S.only [.ck (BaC hI), .ow (n0, 0), .sl (some p, u2, u3), .sl s']⟩
      · clear S
        rintro _ _ ⟨s', rfl, hs', S⟩
        refine w_guard (inK64 (by (first | omega | ((try dsimp only [Sh.T, Sh1.T]); omega))) (by (first | omega | ((try dsimp only [Sh.T, Sh1.T]); omega)))) ?_
        exact ln_n rfl (r - 1) ⟨i + 1, s', rfl, by omega, hs', S⟩ (by omega)
    · have hdl := delF_len o (treeO o xs) ks
      rw [List.take_of_length_le (by omega)] at hs S
      exact w_false (lt_f (by (first | omega | ((try dsimp only [Sh.T, Sh1.T]); omega)))) (ln_e (md_e rfl ⟨s, rfl, hs, S.only [.ck (BaC hI), .ow (n0, 0), .sl s]⟩))
  clear S
  rintro _ _ ⟨sc, rfl, hsc, S⟩
  have hscl : (scrR xs ks ((delF o (treeO o xs) ks).filterMap id)).length ≤ 8589934592 := by unfold scrR; simp only [List.length_append, List.length_map]; omega
  have hfold : (scrR xs ks ((delF o (treeO o xs) ks).filterMap id)).foldl (stepR o) [] = treeO o xs := by rw [scrR_fold]; exact restores o ks _ hst
  have htake := scrR_take o xs ks ((delF o (treeO o xs) ks).filterMap id)
  generalize scrR xs ks ((delF o (treeO o xs) ks).filterMap id) = script at *
  (refine ld_sl S op on oc rfl (ld_int S rfl (ld_bool S rfl ?_)))
  have S := St.st_in (m := [_, _]) (S.ats [.ck (BaC hI), .sl sc])
  refine st_callT S [.ck (StC [BaC hI, SlC sc LS.sz (LS.flat script)])] (fun G hG => c_GScriptI (Rdr.st (i := 0) rfl hr) (by omega) (by omega) (Rdr.st (i := 1) rfl hsc.rdr) hscl (fun i => by have := htake i; omega) hG) ?_
  rintro _ _ _ ⟨rs, t, p, c2, rfl, ht, rfl⟩ S
  dsimp only [List.cons_append, List.nil_append] at S
  rw [hfold] at ht S
  have S := (S.at (.ck (StC [BaC hI, SlC sc LS.sz (LS.flat script)]))).st_out
  dsimp only [List.cons_append, List.nil_append] at S
  refine w_mid' none (fun (y : SV [.c .bool]) h' => y = (true, ()) ∧ St h G [BaC hI] h') ?_ (fun _ _ ⟨e, S⟩ => by subst e; exact rt_1 rfl ⟨_, ⟨rfl, rfl⟩, S⟩)
  refine w_true rfl (w_nonnil (w_guard ⟨by show (0 : Int) ≤ 0; decide, by show (0 : Int) < ((1 : Nat) : Int); decide⟩ ?_))
  refine ld_sl S t.1 t.2.1 t.2.2 rfl ?_
  refine ld_sl S op on oc rfl (ld_int S rfl (ld_bool S rfl ?_))
  refine st_callT S [.ck (BaC hI)] (fun G hG => c_GItems hr (by omega) (by omega) hx (by omega) hG) ?_
  rintro _ _ _ ⟨t2, rfl, ht2, rfl⟩ S
  dsimp only [List.cons_append, List.nil_append] at S
  refine st_held S rfl ?_
  refine st_eqT S (.sl t) (.sl t2) ht.rdr ht2.rdr (by omega) fun _ S => ?_
  refine w_true (by simp) ?_
  (refine st_callT S [] (fun G hG => c_alive hG) ?_; rintro _ _ _ ⟨rfl, rfl⟩ S; dsimp only [List.cons_append, List.nil_append] at S)
  exact md_n rfl ⟨rfl, S.only [.ck (BaC hI)]⟩
end
end Go.Proofs.Ytebiihomlhljkaa
