/-
  The thin package over the tree of items: items set, loaded, sought. Conditions: none.
-/
import Derived.Test.YtebiihomlhljkaaYis
set_option linter.unusedVariables false
set_option linter.unusedSimpArgs false
set_option linter.unusedSectionVars false
set_option maxRecDepth 100000
namespace Go.Proofs.Ytebiihomlhljkaa
open Go

def M_impl_GGetMut (a00p : Option PA) (a00l : Nat) (a00c : Nat) (a01 : Int) (a02 : Bool) (a1p : Option PA) (a1l : Nat) (a1c : Nat) (a2p : Option PA) (a2l : Nat) (a2c : Nat) : M :=
  .alloc ty_impl_Make [.sl (a00p) (a00l) (a00c), .int .i64 (a01), .bool (a02)] fun n0 =>
  .load (n0, 0) (.sl) fun s1 =>
  .load (n0, 1) (.int .i64) fun i2 =>
  .load (n0, 2) (.bool) fun b3 =>
  .call fn_impl_grow [.agg [.sl (s1.fst) (s1.snd.fst) (s1.snd.snd), .int .i64 (i2), .bool (b3)], .c (.sl (a1p) (a1l) (a1c))] false [.c (.ptr)] fun r4 =>
  .bind (some 0) (.loop [.c (.int .i64), .c (.sl)] [.c (.int .i64 (0)), .c (.sl none (0) (0))] fun y5 =>
      .ite (decide (y5.fst < (↑a2l : Int)))
      (.nonnil (a2p) fun p6 =>
        .guard (((0 : Int) ≤ y5.fst) ∧ ((y5.fst : Int) < (↑a2l : Int))) <|
        .load (p6.fst, p6.snd + mulN (Int.toNat y5.fst) 2) (.int .i64) fun i7 =>
        .load (p6.fst, p6.snd + mulN (Int.toNat y5.fst) 2 + 1) (.int .i64) fun i8 =>
        .alloc ty_impl_Item [.int .i64 (0), .int .i64 (0)] fun n9 =>
        .store (n9, 0) (.int .i64 (i7)) <|
        .store (n9, 1) (.int .i64 (i8)) <|
        .load (n9, 0) (.int .i64) fun i10 =>
        .load (n9, 1) (.int .i64) fun i11 =>
        .call fn_tg_GetMut [.c (.ptr (r4.fst)), .agg [.int .i64 (i10), .int .i64 (i11)]] true [.agg [.int .i64, .int .i64], .c (.bool)] fun r12 =>
        .call fn_impl_found [.agg [.int .i64 (r12.fst.fst), .int .i64 (r12.fst.snd.fst)], .c (.bool (r12.snd.fst))] false [.agg [.int .i64, .int .i64, .bool]] fun r13 =>
        .alloc ty_impl_Found [.int .i64 (r13.fst.fst), .int .i64 (r13.fst.snd.fst), .bool (r13.fst.snd.snd.fst)] fun n14 =>
        .append ty_impl_Found 3 24 [.int .i64 (0), .int .i64 (0), .ff] ((y5.snd.fst.fst), y5.snd.fst.snd.fst, y5.snd.fst.snd.snd) ((some (n14, 0)), 1, 1) fun s15 =>
        .guard (InK IntKind.i64 (y5.fst + 1)) <|
        .done .normal [.c (.int .i64 (y5.fst + 1)), .c (.sl (s15.fst) (s15.snd.fst) (s15.snd.snd))])
      (.done (.exit 0) [.c (.sl (y5.snd.fst.fst) (y5.snd.fst.snd.fst) (y5.snd.fst.snd.snd))])) [.c (.sl)] fun x16 =>
  .done .ret [.c (.sl (x16.fst.fst) (x16.fst.snd.fst) (x16.fst.snd.snd))]

theorem den_impl_GGetMut (a00p : Option PA) (a00l : Nat) (a00c : Nat) (a01 : Int) (a02 : Bool) (a1p : Option PA) (a1l : Nat) (a1c : Nat) (a2p : Option PA) (a2l : Nat) (a2c : Nat) : denFn Try.prog Try.f24 [.agg [.sl a00p a00l a00c, .int .i64 a01, .bool a02], .c (.sl a1p a1l a1c), .c (.sl a2p a2l a2c)] = M_impl_GGetMut a00p a00l a00c a01 a02 a1p a1l a1c a2p a2l a2c := by kernel_rfl
theorem hc_impl_GGetMut (a00p : Option PA) (a00l : Nat) (a00c : Nat) (a01 : Int) (a02 : Bool) (a1p : Option PA) (a1l : Nat) (a1c : Nat) (a2p : Option PA) (a2l : Nat) (a2c : Nat) {h : H} {R : Value → H → Prop} (hw : wp Try.prog (M_impl_GGetMut a00p a00l a00c a01 a02 a1p a1l a1c a2p a2l a2c) (Ret R) h) : HC Try.prog fn_impl_GGetMut (List.map AV.val [.agg [.sl a00p a00l a00c, .int .i64 a01, .bool a02], .c (.sl a1p a1l a1c), .c (.sl a2p a2l a2c)]).toArray h R :=
  den_calls hmix Try.func24 (of_decide_eq_true rfl) (by rw [den_impl_GGetMut]; exact hw)

def M_impl_GGetAt (a00p : Option PA) (a00l : Nat) (a00c : Nat) (a01 : Int) (a02 : Bool) (a1p : Option PA) (a1l : Nat) (a1c : Nat) (a2p : Option PA) (a2l : Nat) (a2c : Nat) : M :=
  .alloc ty_impl_Make [.sl (a00p) (a00l) (a00c), .int .i64 (a01), .bool (a02)] fun n0 =>
  .load (n0, 0) (.sl) fun s1 =>
  .load (n0, 1) (.int .i64) fun i2 =>
  .load (n0, 2) (.bool) fun b3 =>
  .call fn_impl_grow [.agg [.sl (s1.fst) (s1.snd.fst) (s1.snd.snd), .int .i64 (i2), .bool (b3)], .c (.sl (a1p) (a1l) (a1c))] false [.c (.ptr)] fun r4 =>
  .bind (some 0) (.loop [.c (.int .i64), .c (.sl)] [.c (.int .i64 (0)), .c (.sl none (0) (0))] fun y5 =>
      .ite (decide (y5.fst < (↑a2l : Int)))
      (.nonnil (a2p) fun p6 =>
        .guard (((0 : Int) ≤ y5.fst) ∧ ((y5.fst : Int) < (↑a2l : Int))) <|
        .load (p6.fst, p6.snd + Int.toNat y5.fst) (.int .i64) fun i7 =>
        .call fn_tg_GetAt [.c (.ptr (r4.fst)), .c (.int .i64 (i7))] true [.agg [.int .i64, .int .i64], .c (.bool)] fun r8 =>
        .call fn_impl_found [.agg [.int .i64 (r8.fst.fst), .int .i64 (r8.fst.snd.fst)], .c (.bool (r8.snd.fst))] false [.agg [.int .i64, .int .i64, .bool]] fun r9 =>
        .alloc ty_impl_Found [.int .i64 (r9.fst.fst), .int .i64 (r9.fst.snd.fst), .bool (r9.fst.snd.snd.fst)] fun n10 =>
        .append ty_impl_Found 3 24 [.int .i64 (0), .int .i64 (0), .ff] ((y5.snd.fst.fst), y5.snd.fst.snd.fst, y5.snd.fst.snd.snd) ((some (n10, 0)), 1, 1) fun s11 =>
        .guard (InK IntKind.i64 (y5.fst + 1)) <|
        .done .normal [.c (.int .i64 (y5.fst + 1)), .c (.sl (s11.fst) (s11.snd.fst) (s11.snd.snd))])
      (.done (.exit 0) [.c (.sl (y5.snd.fst.fst) (y5.snd.fst.snd.fst) (y5.snd.fst.snd.snd))])) [.c (.sl)] fun x12 =>
  .done .ret [.c (.sl (x12.fst.fst) (x12.fst.snd.fst) (x12.fst.snd.snd))]

theorem den_impl_GGetAt (a00p : Option PA) (a00l : Nat) (a00c : Nat) (a01 : Int) (a02 : Bool) (a1p : Option PA) (a1l : Nat) (a1c : Nat) (a2p : Option PA) (a2l : Nat) (a2c : Nat) : denFn Try.prog Try.f27 [.agg [.sl a00p a00l a00c, .int .i64 a01, .bool a02], .c (.sl a1p a1l a1c), .c (.sl a2p a2l a2c)] = M_impl_GGetAt a00p a00l a00c a01 a02 a1p a1l a1c a2p a2l a2c := by kernel_rfl
theorem hc_impl_GGetAt (a00p : Option PA) (a00l : Nat) (a00c : Nat) (a01 : Int) (a02 : Bool) (a1p : Option PA) (a1l : Nat) (a1c : Nat) (a2p : Option PA) (a2l : Nat) (a2c : Nat) {h : H} {R : Value → H → Prop} (hw : wp Try.prog (M_impl_GGetAt a00p a00l a00c a01 a02 a1p a1l a1c a2p a2l a2c) (Ret R) h) : HC Try.prog fn_impl_GGetAt (List.map AV.val [.agg [.sl a00p a00l a00c, .int .i64 a01, .bool a02], .c (.sl a1p a1l a1c), .c (.sl a2p a2l a2c)]).toArray h R :=
  den_calls hmix Try.func27 (of_decide_eq_true rfl) (by rw [den_impl_GGetAt]; exact hw)


section
variable {h : H}
set_option maxHeartbeats 1000000 in
theorem c_GGetMutI {c : Ck} {o : List Int} {op : Option PA} {on oc : Nat} (hr : Rdr c (op, on, oc) LN o) (hl : o.length ≤ 2147483647) {d : Int} {nl : Bool} (hd : d ≤ 128) {xs : List IV} {sp : Option PA} {n cap : Nat} (hx : Rdr c (sp, n, cap) LT xs) (hxl : xs.length ≤ 2147483647) {ks : List IV} {kp : Option PA} {kn kc : Nat} (hk : Rdr c (kp, kn, kc) LT ks) (hkl : ks.length ≤ 2147483647) {G : PA → Prop} (hG : Star [c] h G) :
    HT Try.prog fn_impl_GGetMut [.agg [.sl op on oc, .int .i64 d, .bool nl], .c (.sl sp n cap), .c (.sl kp kn kc)] false [.c .sl] h fun r h' => ∃ post, (∃ s : SlT, r = (s, ()) ∧ OwnL LF s (getsF o (treeO o xs) ks) ∧ post = [c, SlC s LF.sz (LF.flat (getsF o (treeO o xs) ks))]) ∧ St h G post h' := by
  apply hc_impl_GGetMut
  unfold M_impl_GGetMut
  have hn : kn = ks.length := hk.1
  have htl := treeO_len o xs
  refine st_alloc (St.start hG) fun n0 _ S => ?_
  (refine ld_sl S op on oc rfl (ld_int S rfl (ld_bool S rfl ?_)))
  (refine st_callT S [.ck c] (fun G hG => c_grow hr hl hd hx hxl hG) ?_; rintro _ _ _ ⟨m, f, rfl, rfl⟩ S; dsimp only [List.cons_append, List.nil_append] at S)
  have S := sl_nil LF S
  refine w_mid' (some 0) (fun (y : SV [.c .sl]) h' => ∃ s : SlT, y = (s, ()) ∧ OwnL LF s (getsF o (treeO o xs) ks) ∧ St h G [c, SlC s LF.sz (LF.flat (getsF o (treeO o xs) ks))] h') ?_ ?_
  · refine w_lp (fun r y h' => ∃ (i : Nat) (s : SlT), y = ((i : Int), s, ()) ∧ i + r = kn ∧ OwnL LF s (getsF o (treeO o xs) (ks.take i)) ∧ St h G [c, OcC f o, TG.MpC (beF f) o 1 (TG.dgOf d) (m, 0) (treeO o xs), SlC s LF.sz (LF.flat (getsF o (treeO o xs) (ks.take i)))] h') kn rfl
      ⟨0, (none, 0, 0), rfl, by omega, ⟨rfl, Nat.le_refl _, .inl rfl⟩, S.only [.ck c, .ck (OcC f o), .mp (m, 0), .sl (none, 0, 0)]⟩ ?_
    clear S
    rintro r _ _ ⟨i, s, rfl, hi, hs, S⟩
    by_cases hlt : i < kn
    · obtain ⟨p, hp, hrd⟩ := hk.ptr (by omega)
      dsimp only at hp
      subst hp
      have hxi := List.getElem?_eq_getElem (show i < ks.length by omega)
      have hsl : (getsF o (treeO o xs) (ks.take i)).length = i := by rw [getsF_len, List.length_take]; omega
      obtain ⟨s1, s2, s3⟩ := s
      simp only [Int.toNat_natCast, toNat_succ, toNat_succ2, toNat_pred]
      refine w_true (lt_t (by (first | omega | ((try dsimp only [Sh.T, Sh1.T]); omega)))) ?_
      repeat (first | refine w_nonnil ?_ | refine ld_int S rfl ?_ | refine ld_some S rfl ?_ | refine ld_ptr S _ rfl ?_ | refine ld_sls S rfl ?_ | refine ld_nil S rfl ?_ | refine ld_bool S rfl ?_ | refine st_store S (lt_ble rfl) fun _ S => ?_ | refine st_alloc S fun _ _ S => ?_ | refine st_held S rfl ?_ | refine w_guard (by (first | exact inK64 (by omega) (by omega) | omega | (constructor <;> omega) | ((try dsimp only [Sh.T, Sh1.T]); first | exact inK64 (by omega) (by omega) | omega | exact ⟨by decide, inK64 (by omega) (by omega)⟩ | trivial))) ?_ | refine bd_n rfl ?_ | refine bd_e rfl ?_ | refine bd_r ?_ | refine bd_p ?_ | refine ln_r ?_ | refine ln_e ?_ | refine w_true (b := true) rfl ?_ | refine w_false (b := false) rfl ?_ | refine w_item (S.rdr hrd) (by assumption) ?_ | refine h_item (S.rdr hrd) (by assumption) ?_ | refine w_num (S.rdr hro) (by assumption) ?_ | refine ld_sln S rfl ?_ | refine ld_sl S _ _ _ rfl ?_)
      refine st_callB S [.mp (m, 0)] (fun G hG hb => HT.re (args' := [.c (.addr (m, 0)), .agg [.int .i64 ks[i].1, .int .i64 ks[i].2]]) rfl <| TG.c_Get (x := ks[i]) (lss_before hl) (by omega) (hb (OcC f o) (by simp)) hG) ?_
      rintro _ _ _ ⟨rfl, rfl⟩ S
      dsimp only [List.cons_append, List.nil_append] at S
      refine st_callT S [] (fun G hG => c_found hG) ?_
      rintro _ _ _ ⟨rfl, rfl⟩ S
      rw [itR_f]
      dsimp only [List.cons_append, List.nil_append] at S
      refine st_alloc S fun n6 _ S => ?_
      refine st_apo (L := LF) (xs := getsF o (treeO o xs) (ks.take i)) (y := fnd (ltO o) (treeO o xs) ks[i]) S hs rfl rfl (S.rsl (LF.flat [_]) 1 1 3 (fun i v h => by rw [Nat.zero_add]; exact h) rfl) ⟨by omega, by omega⟩ fun s' _ hs' S => ?_
      rw [← getsF_snoc (by omega)] at S hs'
      refine w_guard (inK64 (by (first | omega | ((try dsimp only [Sh.T, Sh1.T]); omega))) (by (first | omega | ((try dsimp only [Sh.T, Sh1.T]); omega)))) ?_
      exact ln_n rfl (r - 1) ⟨i + 1, s', rfl, by omega, hs', S.only [.ck c, .ck (OcC f o), .mp (m, 0), .sl s']⟩ (by omega)
    · rw [List.take_of_length_le (by omega)] at hs S
      exact w_false (lt_f (by (first | omega | ((try dsimp only [Sh.T, Sh1.T]); omega)))) (ln_e (md_e rfl ⟨s, rfl, hs, S.only [.ck c, .sl s]⟩))
  · rintro _ _ ⟨s, rfl, hs, S⟩
    exact rt_1 rfl ⟨_, ⟨s, rfl, hs, rfl⟩, S⟩
set_option maxHeartbeats 1000000 in
theorem c_GGetAtI {c : Ck} {o : List Int} {op : Option PA} {on oc : Nat} (hr : Rdr c (op, on, oc) LN o) (hl : o.length ≤ 2147483647) {d : Int} {nl : Bool} (hd : d ≤ 128) {xs : List IV} {sp : Option PA} {n cap : Nat} (hx : Rdr c (sp, n, cap) LT xs) (hxl : xs.length ≤ 2147483647) {ks : List Int} {kp : Option PA} {kn kc : Nat} {c2 : Ck} (hk : Rdr c2 (kp, kn, kc) LN ks) (hkl : ks.length ≤ 2147484000) {G : PA → Prop} (hG : Star [c, c2] h G) :
    HT Try.prog fn_impl_GGetAt [.agg [.sl op on oc, .int .i64 d, .bool nl], .c (.sl sp n cap), .c (.sl kp kn kc)] false [.c .sl] h fun r h' => ∃ post, (∃ s : SlT, r = (s, ()) ∧ OwnL LF s (atsF (treeO o xs) ks) ∧ post = [c, SlC s LF.sz (LF.flat (atsF (treeO o xs) ks)), c2]) ∧ St h G post h' := by
  apply hc_impl_GGetAt
  unfold M_impl_GGetAt
  have hn : kn = ks.length := hk.1
  have htl := treeO_len o xs
  refine st_alloc (St.start hG) fun n0 _ S => ?_
  (refine ld_sl S op on oc rfl (ld_int S rfl (ld_bool S rfl ?_)))
  (refine st_callT S [.ck c] (fun G hG => c_grow hr hl hd hx hxl hG) ?_; rintro _ _ _ ⟨m, f, rfl, rfl⟩ S; dsimp only [List.cons_append, List.nil_append] at S)
  have S := sl_nil LF S
  refine w_mid' (some 0) (fun (y : SV [.c .sl]) h' => ∃ s : SlT, y = (s, ()) ∧ OwnL LF s (atsF (treeO o xs) ks) ∧ St h G [c, SlC s LF.sz (LF.flat (atsF (treeO o xs) ks)), c2] h') ?_ ?_
  · refine w_lp (fun r y h' => ∃ (i : Nat) (s : SlT), y = ((i : Int), s, ()) ∧ i + r = kn ∧ OwnL LF s (atsF (treeO o xs) (ks.take i)) ∧ St h G [SlC s LF.sz (LF.flat (atsF (treeO o xs) (ks.take i))), TG.MpC (beF f) o 1 (TG.dgOf d) (m, 0) (treeO o xs), c, c2] h') kn rfl
      ⟨0, (none, 0, 0), rfl, by omega, ⟨rfl, Nat.le_refl _, .inl rfl⟩, (S.dels [.ow (n0, 0), .ck (OcC f o)]).ats [.sl (none, 0, 0), .mp (m, 0)]⟩ ?_
    clear S
    rintro r _ _ ⟨i, s, rfl, hi, hs, S⟩
    by_cases hlt : i < kn
    · obtain ⟨p, hp, hro⟩ := hk.ptr (by omega)
      dsimp only at hp
      subst hp
      have hxi := List.getElem?_eq_getElem (show i < ks.length by omega)
      have hsl : (atsF (treeO o xs) (ks.take i)).length = i := by rw [atsF_len, List.length_take]; omega
      obtain ⟨s1, s2, s3⟩ := s
      simp only [Int.toNat_natCast, toNat_succ, toNat_succ2, toNat_pred]
      refine w_true (lt_t (by (first | omega | ((try dsimp only [Sh.T, Sh1.T]); omega)))) ?_
      repeat (first | refine w_nonnil ?_ | refine ld_int S rfl ?_ | refine ld_some S rfl ?_ | refine ld_ptr S _ rfl ?_ | refine ld_sls S rfl ?_ | refine ld_nil S rfl ?_ | refine ld_bool S rfl ?_ | refine st_store S (lt_ble rfl) fun _ S => ?_ | refine st_alloc S fun _ _ S => ?_ | refine st_held S rfl ?_ | refine w_guard (by (first | exact inK64 (by omega) (by omega) | omega | (constructor <;> omega) | ((try dsimp only [Sh.T, Sh1.T]); first | exact inK64 (by omega) (by omega) | omega | exact ⟨by decide, inK64 (by omega) (by omega)⟩ | trivial))) ?_ | refine bd_n rfl ?_ | refine bd_e rfl ?_ | refine bd_r ?_ | refine bd_p ?_ | refine ln_r ?_ | refine ln_e ?_ | refine w_true (b := true) rfl ?_ | refine w_false (b := false) rfl ?_ | refine w_item (S.rdr hrd) (by assumption) ?_ | refine h_item (S.rdr hrd) (by assumption) ?_ | refine w_num (S.rdr hro) (by assumption) ?_ | refine ld_sln S rfl ?_ | refine ld_sl S _ _ _ rfl ?_)
      refine st_callV S [.mp (m, 0)] (args' := [.c (.addr (m, 0)), .c (.int .i64 ks[i])]) rfl (fun G hG => TG.c_GetAt (by omega) hG) ?_
      rintro _ _ _ ⟨rfl, rfl⟩ S
      dsimp only [List.cons_append, List.nil_append] at S
      refine st_callT S [] (fun G hG => c_found hG) ?_
      rintro _ _ _ ⟨rfl, rfl⟩ S
      rw [itR_f]
      dsimp only [List.cons_append, List.nil_append] at S
      refine st_alloc S fun n6 _ S => ?_
      refine st_apo (L := LF) (xs := atsF (treeO o xs) (ks.take i)) (y := atO (treeO o xs) ks[i]) S hs rfl rfl (S.rsl (LF.flat [_]) 1 1 3 (fun i v h => by rw [Nat.zero_add]; exact h) rfl) ⟨by omega, by omega⟩ fun s' _ hs' S => ?_
      rw [← atsF_snoc (by omega)] at S hs'
      refine w_guard (inK64 (by (first | omega | ((try dsimp only [Sh.T, Sh1.T]); omega))) (by (first | omega | ((try dsimp only [Sh.T, Sh1.T]); omega)))) ?_
      exact ln_n rfl (r - 1) ⟨i + 1, s', rfl, by omega, hs', (S.dels [.ow (n6, 0)]).ats [.sl s', .mp (m, 0)]⟩ (by omega)
    · rw [List.take_of_length_le (by omega)] at hs S
      exact w_false (lt_f (by (first | omega | ((try dsimp only [Sh.T, Sh1.T]); omega)))) (ln_e (md_e rfl ⟨s, rfl, hs, (S.dels [.mp (m, 0)]).pull1⟩))
  · rintro _ _ ⟨s, rfl, hs, S⟩
    exact rt_1 rfl ⟨_, ⟨s, rfl, hs, rfl⟩, S⟩
end
end Go.Proofs.Ytebiihomlhljkaa
