/-
  The reference with an order: items set, the least one. Examples, bounds, equal lists. Conditions: none.
-/
import Derived.Test.YtlhbdmjeomffhaaYis
import Derived.Test.YtlhbdmjeomffhaaTs
import Derived.Test.YtlhbdmjeomffhaaGc
set_option linter.unusedVariables false
set_option linter.unusedSimpArgs false
set_option linter.unusedSectionVars false
set_option maxRecDepth 100000
namespace Go.Proofs.Ytlhbdmjeomffhaa
open Go
def M_laws_exItems  : M :=
  .alloc ty_impl_Item [.int .i64 (5), .int .i64 (1), .int .i64 (3), .int .i64 (2), .int .i64 (9), .int .i64 (3), .int .i64 (3), .int .i64 (4), .int .i64 (1), .int .i64 (5), .int .i64 (7), .int .i64 (6), .int .i64 (8), .int .i64 (7)] fun n0 =>
  .done .ret [.c (.sl (some (n0, 0)) (7) (7))]
theorem den_laws_exItems  : denFn Try.prog Try.f16 [] = M_laws_exItems  := by kernel_rfl
theorem hc_laws_exItems  {h : H} {R : Value → H → Prop} (hw : wp Try.prog (M_laws_exItems ) (Ret R) h) : HC Try.prog fn_laws_exItems (List.map AV.val []).toArray h R :=
  den_calls hmix Try.func16 (of_decide_eq_true rfl) (by rw [den_laws_exItems]; exact hw)
def M_laws_exKeys  : M :=
  .alloc ty_impl_Item [.int .i64 (3), .int .i64 (0), .int .i64 (4), .int .i64 (0), .int .i64 (9), .int .i64 (1)] fun n0 =>
  .done .ret [.c (.sl (some (n0, 0)) (3) (3))]
theorem den_laws_exKeys  : denFn Try.prog Try.f22 [] = M_laws_exKeys  := by kernel_rfl
theorem hc_laws_exKeys  {h : H} {R : Value → H → Prop} (hw : wp Try.prog (M_laws_exKeys ) (Ret R) h) : HC Try.prog fn_laws_exKeys (List.map AV.val []).toArray h R :=
  den_calls hmix Try.func22 (of_decide_eq_true rfl) (by rw [den_laws_exKeys]; exact hw)
def M_laws_exMake  : M :=
  .alloc ty_impl_Make [.sl none (0) (0), .int .i64 (0), .ff] fun n0 =>
  .store (n0, 0) (.sl none (0) (0)) <|
  .store (n0, 1) (.int .i64 (2)) <|
  .store (n0, 2) (.ff) <|
  .load (n0, 0) (.sl) fun s1 =>
  .load (n0, 1) (.int .i64) fun i2 =>
  .load (n0, 2) (.bool) fun b3 =>
  .done .ret [.agg [.sl (s1.fst) (s1.snd.fst) (s1.snd.snd), .int .i64 (i2), .bool (b3)]]
theorem den_laws_exMake  : denFn Try.prog Try.f15 [] = M_laws_exMake  := by kernel_rfl
theorem hc_laws_exMake  {h : H} {R : Value → H → Prop} (hw : wp Try.prog (M_laws_exMake ) (Ret R) h) : HC Try.prog fn_laws_exMake (List.map AV.val []).toArray h R :=
  den_calls hmix Try.func15 (of_decide_eq_true rfl) (by rw [den_laws_exMake]; exact hw)
def M_laws_zzFits1 (a00p : Option PA) (a00l : Nat) (a00c : Nat) (a01 : Int) (a02 : Bool) : M :=
  .alloc ty_impl_Make [.sl (a00p) (a00l) (a00c), .int .i64 (a01), .bool (a02)] fun n0 =>
  .load (n0, 0) (.sl) fun s1 =>
  .ite (decide ((↑s1.snd.fst : Int) > 2147483647))
  (.done .ret [.c (.ff)])
  (.done .ret [.c (.tt)])
theorem den_laws_zzFits1 (a00p : Option PA) (a00l : Nat) (a00c : Nat) (a01 : Int) (a02 : Bool) : denFn Try.prog Try.f13 [.agg [.sl a00p a00l a00c, .int .i64 a01, .bool a02]] = M_laws_zzFits1 a00p a00l a00c a01 a02 := by kernel_rfl
theorem hc_laws_zzFits1 (a00p : Option PA) (a00l : Nat) (a00c : Nat) (a01 : Int) (a02 : Bool) {h : H} {R : Value → H → Prop} (hw : wp Try.prog (M_laws_zzFits1 a00p a00l a00c a01 a02) (Ret R) h) : HC Try.prog fn_laws_zzFits1 (List.map AV.val [.agg [.sl a00p a00l a00c, .int .i64 a01, .bool a02]]).toArray h R :=
  den_calls hmix Try.func13 (of_decide_eq_true rfl) (by rw [den_laws_zzFits1]; exact hw)
def M_spec_GGet (a00p : Option PA) (a00l : Nat) (a00c : Nat) (a01 : Int) (a02 : Bool) (a1p : Option PA) (a1l : Nat) (a1c : Nat) (a2p : Option PA) (a2l : Nat) (a2c : Nat) : M :=
  .alloc ty_impl_Make [.sl (a00p) (a00l) (a00c), .int .i64 (a01), .bool (a02)] fun n0 =>
  .load (n0, 0) (.sl) fun s1 =>
  .call fn_spec_Tree [.c (.sl (s1.fst) (s1.snd.fst) (s1.snd.snd)), .c (.sl (a1p) (a1l) (a1c))] false [.c (.sl)] fun r2 =>
  .bind (some 0) (.loop [.c (.int .i64), .c (.sl)] [.c (.int .i64 (0)), .c (.sl none (0) (0))] fun y3 =>
      .ite (decide (y3.fst < (↑a2l : Int)))
      (.nonnil (a2p) fun p4 =>
        .guard (((0 : Int) ≤ y3.fst) ∧ ((y3.fst : Int) < (↑a2l : Int))) <|
        .load (p4.fst, p4.snd + mulN (Int.toNat y3.fst) 2) (.int .i64) fun i5 =>
        .load (p4.fst, p4.snd + mulN (Int.toNat y3.fst) 2 + 1) (.int .i64) fun i6 =>
        .alloc ty_impl_Item [.int .i64 (0), .int .i64 (0)] fun n7 =>
        .store (n7, 0) (.int .i64 (i5)) <|
        .store (n7, 1) (.int .i64 (i6)) <|
        .alloc ty_impl_Found [.int .i64 (0), .int .i64 (0), .ff] fun n8 =>
        .store (n8, 0) (.int .i64 (0)) <|
        .store (n8, 1) (.int .i64 (0)) <|
        .store (n8, 2) (.ff) <|
        .load (n0, 0) (.sl) fun s9 =>
        .load (n7, 0) (.int .i64) fun i10 =>
        .load (n7, 1) (.int .i64) fun i11 =>
        .call fn_spec_Place [.c (.sl (s9.fst) (s9.snd.fst) (s9.snd.snd)), .c (.sl (r2.fst.fst) (r2.fst.snd.fst) (r2.fst.snd.snd)), .agg [.int .i64 (i10), .int .i64 (i11)]] true [.c (.int .i64), .c (.bool)] fun r12 =>
        .bind none (.ite (r12.snd.fst)
          (.call fn_spec_At [.c (.sl (r2.fst.fst) (r2.fst.snd.fst) (r2.fst.snd.snd)), .c (.int .i64 (r12.fst))] false [.agg [.int .i64, .int .i64, .bool]] fun r13 =>
            .store (n8, 0) (.int .i64 (r13.fst.fst)) <|
            .store (n8, 1) (.int .i64 (r13.fst.snd.fst)) <|
            .store (n8, 2) (.bool (r13.fst.snd.snd.fst)) <|
            .done .normal [])
          (.done .normal [])) [] fun x14 =>
        .load (n8, 0) (.int .i64) fun i15 =>
        .load (n8, 1) (.int .i64) fun i16 =>
        .load (n8, 2) (.bool) fun b17 =>
        .alloc ty_impl_Found [.int .i64 (i15), .int .i64 (i16), .bool (b17)] fun n18 =>
        .append ty_impl_Found 3 24 [.int .i64 (0), .int .i64 (0), .ff] ((y3.snd.fst.fst), y3.snd.fst.snd.fst, y3.snd.fst.snd.snd) ((some (n18, 0)), 1, 1) fun s19 =>
        .guard (InK IntKind.i64 (y3.fst + 1)) <|
        .done .normal [.c (.int .i64 (y3.fst + 1)), .c (.sl (s19.fst) (s19.snd.fst) (s19.snd.snd))])
      (.done (.exit 0) [.c (.sl (y3.snd.fst.fst) (y3.snd.fst.snd.fst) (y3.snd.fst.snd.snd))])) [.c (.sl)] fun x20 =>
  .done .ret [.c (.sl (x20.fst.fst) (x20.fst.snd.fst) (x20.fst.snd.snd))]
theorem den_spec_GGet (a00p : Option PA) (a00l : Nat) (a00c : Nat) (a01 : Int) (a02 : Bool) (a1p : Option PA) (a1l : Nat) (a1c : Nat) (a2p : Option PA) (a2l : Nat) (a2c : Nat) : denFn Try.prog Try.f46 [.agg [.sl a00p a00l a00c, .int .i64 a01, .bool a02], .c (.sl a1p a1l a1c), .c (.sl a2p a2l a2c)] = M_spec_GGet a00p a00l a00c a01 a02 a1p a1l a1c a2p a2l a2c := by kernel_rfl
theorem hc_spec_GGet (a00p : Option PA) (a00l : Nat) (a00c : Nat) (a01 : Int) (a02 : Bool) (a1p : Option PA) (a1l : Nat) (a1c : Nat) (a2p : Option PA) (a2l : Nat) (a2c : Nat) {h : H} {R : Value → H → Prop} (hw : wp Try.prog (M_spec_GGet a00p a00l a00c a01 a02 a1p a1l a1c a2p a2l a2c) (Ret R) h) : HC Try.prog fn_spec_GGet (List.map AV.val [.agg [.sl a00p a00l a00c, .int .i64 a01, .bool a02], .c (.sl a1p a1l a1c), .c (.sl a2p a2l a2c)]).toArray h R :=
  den_calls hmix Try.func46 (of_decide_eq_true rfl) (by rw [den_spec_GGet]; exact hw)
def exI : List IV := [(5, 1), (3, 2), (9, 3), (3, 4), (1, 5), (7, 6), (8, 7)]
def exK : List IV := [(3, 0), (4, 0), (9, 1)]
section
variable {Q : Ex → List AV → H → Prop} {h h0 : H} {G0 : PA → Prop} {l : List Ck}
theorem st_eqF (s : St h0 G0 l h) {a b : SlT} {xs : List (Option IV)} (ha : OwnL LF a xs) (hb : OwnL LF b xs) (hl : xs.length ≤ 4294967296) {r m : List Ck} [Pks [.sl a, .sl b] l [SlC a LF.sz (LF.flat xs), SlC b LF.sz (LF.flat xs)] r m] {k : SV [.c .bool] → M}
    (hw : ∀ h', St h0 G0 r h' → wp Try.prog (k (true, ())) Q h') : wp Try.prog (.call fn_slices_Equal_impl_Found_impl_Found [.c (.sl a.1 a.2.1 a.2.2), .c (.sl b.1 b.2.1 b.2.2)] false [.c .bool] k) Q h := by
  have S := s.perm (Pks.perm [.sl a, .sl b] (m := m))
  refine st_callT (l := StC [_, _] :: r) (St.st_in (m := [_, _]) S) [.ck (StC [SlC a LF.sz (LF.flat xs), SlC b LF.sz (LF.flat xs)])] (fun G hG => c_EqualFound (Rdr.st (i := 0) rfl ha.rdr) (Rdr.st (i := 1) rfl hb.rdr) hl hG) ?_
  rintro _ _ _ ⟨rfl, rfl⟩ S
  exact hw _ S.drop
theorem st_eqT (s : St h0 G0 l h) (q1 q2 : Kq) {c1 c2 : Ck} {a b : SlT} {xs ys : List IV} (ha : Rdr c1 a LT xs) (hb : Rdr c2 b LT ys) (hl : xs.length ≤ 4294967296) {r m : List Ck} [Pks [q1, q2] l [c1, c2] r m] {k : SV [.c .bool] → M}
    (hw : ∀ h', St h0 G0 (c1 :: c2 :: r) h' → wp Try.prog (k (decide (xs = ys), ())) Q h') : wp Try.prog (.call fn_slices_Equal_impl_Item_impl_Item [.c (.sl a.1 a.2.1 a.2.2), .c (.sl b.1 b.2.1 b.2.2)] false [.c .bool] k) Q h := by
  have S := s.perm (Pks.perm [q1, q2] (m := m))
  refine st_callT (l := StC [_, _] :: r) (St.st_in (m := [_, _]) S) [.ck (StC [c1, c2])] (fun G hG => c_EqualItems (Rdr.st (i := 0) rfl ha) (Rdr.st (i := 1) rfl hb) hl hG) ?_
  rintro _ _ _ ⟨rfl, rfl⟩ S
  exact hw _ (St.st_out S)
end
section
variable {h : H}
theorem c_exItems {G : PA → Prop} (hG : Star [] h G) : HT Try.prog fn_laws_exItems [] false [.c .sl] h fun r h' => ∃ post, (∃ n : Nat, r = ((some (n, 0), 7, 7), ()) ∧ post = [Ow (n, 0) (LT.flat exI) 0]) ∧ St h G post h' := by
  apply hc_laws_exItems
  unfold M_laws_exItems
  refine st_alloc (St.start hG) fun n _ S => ?_
  exact rt_1 rfl ⟨_, ⟨n, rfl, rfl⟩, S⟩
theorem c_exKeys {G : PA → Prop} (hG : Star [] h G) : HT Try.prog fn_laws_exKeys [] false [.c .sl] h fun r h' => ∃ post, (∃ n : Nat, r = ((some (n, 0), 3, 3), ()) ∧ post = [Ow (n, 0) (LT.flat exK) 0]) ∧ St h G post h' := by
  apply hc_laws_exKeys
  unfold M_laws_exKeys
  refine st_alloc (St.start hG) fun n _ S => ?_
  exact rt_1 rfl ⟨_, ⟨n, rfl, rfl⟩, S⟩
theorem c_exMake {G : PA → Prop} (hG : Star [] h G) : HT Try.prog fn_laws_exMake [] false [.agg [.sl, .int .i64, .bool]] h fun r h' => ∃ post, (r = (((none, 0, 0), 2, false, ()), ()) ∧ post = []) ∧ St h G post h' := by
  apply hc_laws_exMake
  unfold M_laws_exMake
  refine st_alloc (St.start hG) fun n _ S => ?_
  repeat (first | refine w_nonnil ?_ | refine ld_int S rfl ?_ | refine ld_some S rfl ?_ | refine ld_ptr S _ rfl ?_ | refine ld_sls S rfl ?_ | refine ld_nil S rfl ?_ | refine ld_bool S rfl ?_ | refine st_store S (lt_ble rfl) fun _ S => ?_ | refine st_alloc S fun _ _ S => ?_ | refine st_held S rfl ?_ | refine w_guard (by (first | exact inK64 (by omega) (by omega) | omega | (constructor <;> omega) | ((try dsimp only [Sh.T, Sh1.T]); first | exact inK64 (by omega) (by omega) | omega | exact ⟨by decide, inK64 (by omega) (by omega)⟩ | trivial))) ?_ | refine bd_n rfl ?_ | refine bd_e rfl ?_ | refine bd_r ?_ | refine bd_p ?_ | refine ln_r ?_ | refine ln_e ?_ | refine w_true (b := true) rfl ?_ | refine w_false (b := false) rfl ?_ | refine w_item (S.rdr hrd) (by assumption) ?_ | refine h_item (S.rdr hrd) (by assumption) ?_ | refine w_num (S.rdr hro) (by assumption) ?_ | refine ld_sln S rfl ?_ | refine ld_sl S _ _ _ rfl ?_)
  exact rt_1 rfl ⟨_, ⟨rfl, rfl⟩, S.drop⟩
theorem c_zzFits1 {op : Option PA} {on oc : Nat} {d : Int} {nl : Bool} {G : PA → Prop} (hG : Star [] h G) :
    HT Try.prog fn_laws_zzFits1 [.agg [.sl op on oc, .int .i64 d, .bool nl]] false [.c .bool] h fun r h' => ∃ post, (r = (decide (on ≤ 2147483647), ()) ∧ post = []) ∧ St h G post h' := by
  apply hc_laws_zzFits1
  unfold M_laws_zzFits1
  refine st_alloc (St.start hG) fun n _ S => ?_
  refine ld_sl S op on oc rfl ?_
  by_cases h0 : on ≤ 2147483647
  · exact w_false (decide_eq_false (by (first | omega | ((try dsimp only [Sh.T, Sh1.T]); omega)))) (rt_1 rfl ⟨_, ⟨by rw [decide_eq_true h0], rfl⟩, S.drop⟩)
  · exact w_true (decide_eq_true (by (first | omega | ((try dsimp only [Sh.T, Sh1.T]); omega)))) (rt_1 rfl ⟨_, ⟨by rw [decide_eq_false h0], rfl⟩, S.drop⟩)
def q1O (o : List Int) (t : List IV) (x : IV) : Option IV := if (fnd (ltO o) t x).isSome = true then atO t (pos (ltO o) t x) else none
theorem q1O_eq (o : List Int) (t : List IV) (x : IV) : q1O o t x = fnd (ltO o) t x := by
  unfold q1O
  cases hf : fnd (ltO o) t x with
  | none => rfl
  | some y =>
    simp only [Option.isSome_some, if_true, atO]
    rw [if_neg (by omega), Int.toNat_natCast]
    exact (fnd_some_lt hf).2.1
set_option maxHeartbeats 1000000 in
theorem c_specGGetO {c : Ck} {o : List Int} {op : Option PA} {on oc : Nat} (hr : Rdr c (op, on, oc) LN o) (hl : o.length ≤ 2147483647) {d : Int} {nl : Bool} {xs : List IV} {sp : Option PA} {n cap : Nat} (hx : Rdr c (sp, n, cap) LT xs) (hxl : xs.length ≤ 2147483647) {ks : List IV} {kp : Option PA} {kn kc : Nat} (hk : Rdr c (kp, kn, kc) LT ks) (hkl : ks.length ≤ 2147483647) {G : PA → Prop} (hG : Star [c] h G) :
    HT Try.prog fn_spec_GGet [.agg [.sl op on oc, .int .i64 d, .bool nl], .c (.sl sp n cap), .c (.sl kp kn kc)] false [.c .sl] h fun r h' => ∃ post, (∃ s : SlT, r = (s, ()) ∧ OwnL LF s (getsF o (treeO o xs) ks) ∧ post = [c, SlC s LF.sz (LF.flat (getsF o (treeO o xs) ks))]) ∧ St h G post h' := by
  apply hc_spec_GGet
  unfold M_spec_GGet
  have hn : kn = ks.length := hk.1
  have htl := treeO_len o xs
  refine st_alloc (St.start hG) fun n0 _ S => ?_
  refine ld_sl S op on oc rfl ?_
  refine st_callT S [.ck c] (fun G hG => c_Tree hr hl hx (by omega) hG) ?_
  rintro _ _ _ ⟨⟨tp, tn, tc⟩, rfl, ht, rfl⟩ S
  dsimp only [List.cons_append, List.nil_append] at S
  have S := sl_nil LF S
  refine w_mid' (some 0) (fun (y : SV [.c .sl]) h' => ∃ s : SlT, y = (s, ()) ∧ OwnL LF s (getsF o (treeO o xs) ks) ∧ St h G [c, SlC s LF.sz (LF.flat (getsF o (treeO o xs) ks))] h') ?_ ?_
  · refine w_lp (fun r y h' => ∃ (i : Nat) (s : SlT), y = ((i : Int), s, ()) ∧ i + r = kn ∧ OwnL LF s (getsF o (treeO o xs) (ks.take i)) ∧ St h G [SlC s LF.sz (LF.flat (getsF o (treeO o xs) (ks.take i))), SlC (tp, tn, tc) LT.sz (LT.flat (treeO o xs)), Ow (n0, 0) (List.map Cell.val [.sl op on oc, .int .i64 d, .bool nl]) 0, c] h') kn rfl
      ⟨0, (none, 0, 0), rfl, by omega, ⟨rfl, Nat.le_refl _, .inl rfl⟩, S.only [.sl (none, 0, 0), .sl (tp, tn, tc), .ow (n0, 0), .ck c]⟩ ?_
    clear S
    rintro r _ _ ⟨i, s, rfl, hi, hs, S⟩
    by_cases hlt : i < kn
    · obtain ⟨p, hp, hrd⟩ := hk.ptr (by omega)
      dsimp only at hp
      subst hp
      have hxi := List.getElem?_eq_getElem (show i < ks.length by omega)
      have hsl : (getsF o (treeO o xs) (ks.take i)).length = i := by rw [getsF_len, List.length_take]; omega
      obtain ⟨s1, s2, s3⟩ := s
      simp only [Int.toNat_natCast, toNat_succ, toNat_succ2, toNat_pred]
      refine w_true (lt_t (by (first | omega | ((try dsimp only [Sh.T, Sh1.T]); omega)))) (w_nonnil (w_guard ⟨by (first | omega | ((try dsimp only [Sh.T, Sh1.T]); omega)), by (first | omega | ((try dsimp only [Sh.T, Sh1.T]); omega))⟩ (w_item (S.rdr hrd) hxi ?_)))
      refine st_alloc S fun n7 _ S => ?_
      refine st_store S (lt_ble rfl) fun _ S => ?_
      refine st_store S (lt_ble rfl) fun _ S => ?_
      refine st_alloc S fun n8 _ S => ?_
      refine st_store S (lt_ble rfl) fun _ S => ?_
      refine st_store S (lt_ble rfl) fun _ S => ?_
      refine st_store S (lt_ble rfl) fun _ S => ?_
      refine ld_sl S op on oc rfl (ld_int S rfl (ld_int S rfl ?_))
      (have S := S.ats [.ck c, .sl (tp, tn, tc)]; refine st_callT (l := StC [c, SlC (tp, tn, tc) LT.sz (LT.flat (treeO o xs))] :: _) (St.st_in (m := [_, _]) S) [.ck (StC [c, SlC (tp, tn, tc) LT.sz (LT.flat (treeO o xs))])] (fun G hG => c_Place (x := ks[i]) (Rdr.st (i := 0) rfl hr) hl (Rdr.st (i := 1) rfl ht.rdr) (by omega) hG) ?_)
      rintro _ _ _ ⟨rfl, rfl⟩ S
      dsimp only [List.cons_append, List.nil_append] at S
      have S := St.st_out S
      dsimp only [List.cons_append, List.nil_append] at S
      refine w_mid' none (fun _ h' => St h G [Ow (n8, 0) (LF.cells (q1O o (treeO o xs) ks[i])) 0, SlC (s1, s2, s3) LF.sz (LF.flat (getsF o (treeO o xs) (ks.take i))), SlC (tp, tn, tc) LT.sz (LT.flat (treeO o xs)), Ow (n0, 0) (List.map Cell.val [.sl op on oc, .int .i64 d, .bool nl]) 0, c] h') ?_ ?_
      · cases hf : (fnd (ltO o) (treeO o xs) ks[i]).isSome with
        | true =>
          refine w_true rfl ?_
          refine st_callT S [.sl (tp, tn, tc)] (fun G hG => c_At ht.rdr (by omega) hG) ?_
          rintro _ _ _ ⟨rfl, rfl⟩ S
          dsimp only [List.cons_append, List.nil_append] at S
          refine st_store S (lt_ble rfl) fun _ S => ?_
          refine st_store S (lt_ble rfl) fun _ S => ?_
          refine st_store S (lt_ble rfl) fun _ S => ?_
          have e : q1O o (treeO o xs) ks[i] = atO (treeO o xs) (pos (ltO o) (treeO o xs) ks[i]) := by rw [q1O, if_pos hf]
          rw [e]
          exact md_n rfl (S.only [.ow (n8, 0), .sl (s1, s2, s3), .sl (tp, tn, tc), .ow (n0, 0), .ck c])
        | false =>
          have e : q1O o (treeO o xs) ks[i] = none := by rw [q1O, if_neg (by rw [hf]; decide)]
          rw [e]
          exact w_false rfl (md_n rfl (S.only [.ow (n8, 0), .sl (s1, s2, s3), .sl (tp, tn, tc), .ow (n0, 0), .ck c]))
      · rintro _ _ S
        rw [q1O_eq] at S
        refine ld_int S rfl (ld_int S rfl (ld_bool S rfl ?_))
        refine st_alloc S fun n18 _ S => ?_
        refine st_apo (L := LF) (xs := getsF o (treeO o xs) (ks.take i)) (y := fnd (ltO o) (treeO o xs) ks[i]) S hs rfl rfl (S.rsl (LF.flat [_]) 1 1 3 (fun i v h => by rw [Nat.zero_add]; exact h) rfl) ⟨by omega, by omega⟩ fun s' _ hs' S => ?_
        rw [← getsF_snoc (by omega)] at S hs'
        refine w_guard (inK64 (by (first | omega | ((try dsimp only [Sh.T, Sh1.T]); omega))) (by (first | omega | ((try dsimp only [Sh.T, Sh1.T]); omega)))) ?_
        exact ln_n rfl (r - 1) ⟨i + 1, s', rfl, by omega, hs', S.only [.sl s', .sl (tp, tn, tc), .ow (n0, 0), .ck c]⟩ (by omega)
    · rw [List.take_of_length_le (by omega)] at hs S
      exact w_false (lt_f (by (first | omega | ((try dsimp only [Sh.T, Sh1.T]); omega)))) (ln_e (md_e rfl ⟨s, rfl, hs, S.only [.ck c, .sl s]⟩))
  · rintro _ _ ⟨s, rfl, hs, S⟩
    exact rt_1 rfl ⟨_, ⟨s, rfl, hs, rfl⟩, S⟩
end
end Go.Proofs.Ytlhbdmjeomffhaa
