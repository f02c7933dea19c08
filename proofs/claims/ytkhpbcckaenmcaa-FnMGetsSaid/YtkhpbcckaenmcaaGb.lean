/-
  The thin package: keys sought in a map. The reference: items out of keys. Conditions: none.
-/
import Derived.Test.YtkhpbcckaenmcaaIm
import Derived.Test.YtkhpbcckaenmcaaVa
import Derived.Test.YtkhpbcckaenmcaaGami
set_option linter.unusedVariables false
set_option linter.unusedSimpArgs false
set_option linter.unusedSectionVars false
set_option maxRecDepth 100000
namespace Go.Proofs.Ytkhpbcckaenmcaa
open Go

def M_spec_Items (a0p : Option PA) (a0l : Nat) (a0c : Nat) : M :=
  .bind (some 0) (.loop [.c (.int .i64), .c (.sl)] [.c (.int .i64 (0)), .c (.sl none (0) (0))] fun y0 =>
      .ite (decide (y0.fst < (↑a0l : Int)))
      (.nonnil (a0p) fun p1 =>
        .guard (((0 : Int) ≤ y0.fst) ∧ ((y0.fst : Int) < (↑a0l : Int))) <|
        .load (p1.fst, p1.snd + Int.toNat y0.fst) (.int .i64) fun i2 =>
        .alloc ty_impl_Item [.int .i64 (i2), .int .i64 (0)] fun n3 =>
        .append ty_impl_Item 2 16 [.int .i64 (0), .int .i64 (0)] ((y0.snd.fst.fst), y0.snd.fst.snd.fst, y0.snd.fst.snd.snd) ((some (n3, 0)), 1, 1) fun s4 =>
        .guard (InK IntKind.i64 (y0.fst + 1)) <|
        .done .normal [.c (.int .i64 (y0.fst + 1)), .c (.sl (s4.fst) (s4.snd.fst) (s4.snd.snd))])
      (.done (.exit 0) [.c (.sl (y0.snd.fst.fst) (y0.snd.fst.snd.fst) (y0.snd.fst.snd.snd))])) [.c (.sl)] fun x5 =>
  .done .ret [.c (.sl (x5.fst.fst) (x5.fst.snd.fst) (x5.fst.snd.snd))]

theorem den_spec_Items (a0p : Option PA) (a0l : Nat) (a0c : Nat) : denFn Try.prog Try.f50 [.c (.sl a0p a0l a0c)] = M_spec_Items a0p a0l a0c := by kernel_rfl
theorem hc_spec_Items (a0p : Option PA) (a0l : Nat) (a0c : Nat) {h : H} {R : Value → H → Prop} (hw : wp Try.prog (M_spec_Items a0p a0l a0c) (Ret R) h) : HC Try.prog fn_spec_Items (List.map AV.val [.c (.sl a0p a0l a0c)]).toArray h R :=
  den_calls hmix Try.func50 (of_decide_eq_true rfl) (by rw [den_spec_Items]; exact hw)

def M_impl_MGetMut (a0 : Int) (a1p : Option PA) (a1l : Nat) (a1c : Nat) (a2p : Option PA) (a2l : Nat) (a2c : Nat) : M :=
  .call fn_impl_growMap [.c (.int .i64 (a0)), .c (.sl (a1p) (a1l) (a1c))] false [.c (.ptr)] fun r0 =>
  .bind (some 0) (.loop [.c (.int .i64), .c (.sl)] [.c (.int .i64 (0)), .c (.sl none (0) (0))] fun y1 =>
      .ite (decide (y1.fst < (↑a2l : Int)))
      (.nonnil (a2p) fun p2 =>
        .guard (((0 : Int) ≤ y1.fst) ∧ ((y1.fst : Int) < (↑a2l : Int))) <|
        .load (p2.fst, p2.snd + Int.toNat y1.fst) (.int .i64) fun i3 =>
        .call fn_mi_GetMut [.c (.ptr (r0.fst)), .c (.int .i64 (i3))] true [.c (.int .i64), .c (.bool)] fun r4 =>
        .call fn_impl_pair [.c (.int .i64 (i3)), .c (.int .i64 (r4.fst)), .c (.bool (r4.snd.fst))] false [.agg [.int .i64, .int .i64, .bool]] fun r5 =>
        .alloc ty_impl_Found [.int .i64 (r5.fst.fst), .int .i64 (r5.fst.snd.fst), .bool (r5.fst.snd.snd.fst)] fun n6 =>
        .append ty_impl_Found 3 24 [.int .i64 (0), .int .i64 (0), .ff] ((y1.snd.fst.fst), y1.snd.fst.snd.fst, y1.snd.fst.snd.snd) ((some (n6, 0)), 1, 1) fun s7 =>
        .guard (InK IntKind.i64 (y1.fst + 1)) <|
        .done .normal [.c (.int .i64 (y1.fst + 1)), .c (.sl (s7.fst) (s7.snd.fst) (s7.snd.snd))])
      (.done (.exit 0) [.c (.sl (y1.snd.fst.fst) (y1.snd.fst.snd.fst) (y1.snd.fst.snd.snd))])) [.c (.sl)] fun x8 =>
  .done .ret [.c (.sl (x8.fst.fst) (x8.fst.snd.fst) (x8.fst.snd.snd))]

theorem den_impl_MGetMut (a0 : Int) (a1p : Option PA) (a1l : Nat) (a1c : Nat) (a2p : Option PA) (a2l : Nat) (a2c : Nat) : denFn Try.prog Try.f48 [.c (.int .i64 a0), .c (.sl a1p a1l a1c), .c (.sl a2p a2l a2c)] = M_impl_MGetMut a0 a1p a1l a1c a2p a2l a2c := by kernel_rfl
theorem hc_impl_MGetMut (a0 : Int) (a1p : Option PA) (a1l : Nat) (a1c : Nat) (a2p : Option PA) (a2l : Nat) (a2c : Nat) {h : H} {R : Value → H → Prop} (hw : wp Try.prog (M_impl_MGetMut a0 a1p a1l a1c a2p a2l a2c) (Ret R) h) : HC Try.prog fn_impl_MGetMut (List.map AV.val [.c (.int .i64 a0), .c (.sl a1p a1l a1c), .c (.sl a2p a2l a2c)]).toArray h R :=
  den_calls hmix Try.func48 (of_decide_eq_true rfl) (by rw [den_impl_MGetMut]; exact hw)


section
variable {h : H}
/-- Items out of keys. -/
def iO (ks : List Int) : List IV := ks.map fun k => (k, 0)
theorem iO_len (ks : List Int) : (iO ks).length = ks.length := List.length_map _
theorem iO_snoc {ks : List Int} {i : Nat} (h : i < ks.length) : iO (ks.take (i + 1)) = iO (ks.take i) ++ [(ks[i], 0)] := by rw [take_snoc h, iO, List.map_append]; rfl
theorem c_specItems {c : Ck} {xs : List Int} {sp : Option PA} {n cap : Nat} (hx : Rdr c (sp, n, cap) LN xs) (hxl : xs.length ≤ 4294967296) {G : PA → Prop} (hG : Star [c] h G) :
    HT Try.prog fn_spec_Items [.c (.sl sp n cap)] false [.c .sl] h fun r h' => ∃ post, (∃ s : SlT, r = (s, ()) ∧ OwnL LT s (iO xs) ∧ post = [c, SlC s LT.sz (LT.flat (iO xs))]) ∧ St h G post h' := by
  apply hc_spec_Items
  unfold M_spec_Items
  have hn : n = xs.length := hx.1
  have S := sl_nil LT (St.start hG)
  refine w_bnd (w_lp (fun r y h' => ∃ (i : Nat) (s : SlT), y = ((i : Int), s, ()) ∧ i + r = n ∧ OwnL LT s (iO (xs.take i)) ∧ St h G [c, SlC s LT.sz (LT.flat (iO (xs.take i)))] h') n rfl
    ⟨0, (none, 0, 0), rfl, by omega, ⟨rfl, Nat.le_refl _, .inl rfl⟩, S.pull1⟩ ?_)
  rintro r _ _ ⟨i, s, rfl, hi, hs, S⟩
  by_cases hlt : i < n
  · obtain ⟨p, hp, hro⟩ := hx.ptr (by omega)
    dsimp only at hp
    subst hp
    have hxi := List.getElem?_eq_getElem (show i < xs.length by omega)
    have hsl : (iO (xs.take i)).length = i := by rw [iO_len, List.length_take]; omega
    obtain ⟨s1, s2, s3⟩ := s
    simp only [Int.toNat_natCast, toNat_succ, toNat_succ2, toNat_pred]
    refine w_true (lt_t (by (first | omega | ((try dsimp only [Sh.T, Sh1.T]); omega)))) ?_
    repeat (first | refine w_nonnil ?_ | refine ld_int S rfl ?_ | refine ld_some S rfl ?_ | refine ld_ptr S _ rfl ?_ | refine ld_sls S rfl ?_ | refine ld_nil S rfl ?_ | refine ld_bool S rfl ?_ | refine st_store S (lt_ble rfl) fun _ S => ?_ | refine st_alloc S fun _ _ S => ?_ | refine st_held S rfl ?_ | refine w_guard (by (first | exact inK64 (by omega) (by omega) | omega | (constructor <;> omega) | ((try dsimp only [Sh.T, Sh1.T]); first | exact inK64 (by omega) (by omega) | omega | exact ⟨by decide, inK64 (by omega) (by omega)⟩ | trivial))) ?_ | refine bd_n rfl ?_ | refine bd_e rfl ?_ | refine bd_r ?_ | refine bd_p ?_ | refine ln_r ?_ | refine ln_e ?_ | refine w_true (b := true) rfl ?_ | refine w_false (b := false) rfl ?_ | refine w_item (S.rdr hrd) (by assumption) ?_ | refine h_item (S.rdr hrd) (by assumption) ?_ | refine w_num (S.rdr hro) (by assumption) ?_ | refine ld_sln S rfl ?_ | refine ld_sl S _ _ _ rfl ?_)
    refine st_apo (L := LT) (xs := iO (xs.take i)) (y := (xs[i], 0)) S hs rfl rfl (S.rsl (LT.flat [(xs[i], 0)]) 1 1 2 (fun i v h => by rw [Nat.zero_add]; exact h) rfl) ⟨by omega, by omega⟩ fun s' _ hs' S => ?_
    rw [← iO_snoc (by omega)] at S hs'
    repeat (first | refine w_nonnil ?_ | refine ld_int S rfl ?_ | refine ld_some S rfl ?_ | refine ld_ptr S _ rfl ?_ | refine ld_sls S rfl ?_ | refine ld_nil S rfl ?_ | refine ld_bool S rfl ?_ | refine st_store S (lt_ble rfl) fun _ S => ?_ | refine st_alloc S fun _ _ S => ?_ | refine st_held S rfl ?_ | refine w_guard (by (first | exact inK64 (by omega) (by omega) | omega | (constructor <;> omega) | ((try dsimp only [Sh.T, Sh1.T]); first | exact inK64 (by omega) (by omega) | omega | exact ⟨by decide, inK64 (by omega) (by omega)⟩ | trivial))) ?_ | refine bd_n rfl ?_ | refine bd_e rfl ?_ | refine bd_r ?_ | refine bd_p ?_ | refine ln_r ?_ | refine ln_e ?_ | refine w_true (b := true) rfl ?_ | refine w_false (b := false) rfl ?_ | refine w_item (S.rdr hrd) (by assumption) ?_ | refine h_item (S.rdr hrd) (by assumption) ?_ | refine w_num (S.rdr hro) (by assumption) ?_ | refine ld_sln S rfl ?_ | refine ld_sl S _ _ _ rfl ?_)
    exact ln_n rfl (r - 1) ⟨i + 1, s', rfl, by omega, hs', S.only [.ck c, .sl s']⟩ (by omega)
  · refine w_false (lt_f (by (first | omega | ((try dsimp only [Sh.T, Sh1.T]); omega)))) (ln_e (bd_e rfl (rt_1 rfl ⟨_, ⟨s, rfl, ?_⟩, S⟩)))
    rw [List.take_of_length_le (by omega)] at hs ⊢
    exact ⟨hs, rfl⟩
/-- What is found for keys. -/
def gO (l : List IV) (ks : List Int) : List (Option IV) := ks.map fun k => if (MI.getR l k).2.1 then some (k, (MI.getR l k).1) else none
theorem gO_len (l : List IV) (ks : List Int) : (gO l ks).length = ks.length := List.length_map _
theorem gO_snoc {l : List IV} {ks : List Int} {i : Nat} (h : i < ks.length) : gO l (ks.take (i + 1)) = gO l (ks.take i) ++ [if (MI.getR l ks[i]).2.1 then some (ks[i], (MI.getR l ks[i]).1) else none] := by
  rw [take_snoc h, gO, List.map_append]; rfl
theorem c_MGetMut {c : Ck} {d : Int} (hd : d ≤ 536870912) {xs : List IV} {sp : Option PA} {n cap : Nat} (hx : Rdr c (sp, n, cap) LT xs) (hxl : xs.length ≤ 2147483647) {ks : List Int} {kp : Option PA} {kn kc : Nat} (hk : Rdr c (kp, kn, kc) LN ks) (hkl : ks.length ≤ 2147483647) {G : PA → Prop} (hG : Star [c] h G) :
    HT Try.prog fn_impl_MGetMut [.c (.int .i64 d), .c (.sl sp n cap), .c (.sl kp kn kc)] false [.c .sl] h fun r h' => ∃ post, (∃ s : SlT, r = (s, ()) ∧ OwnL LF s (gO (treeO [] xs) ks) ∧ post = [c, SlC s LF.sz (LF.flat (gO (treeO [] xs) ks))]) ∧ St h G post h' := by
  apply hc_impl_MGetMut
  unfold M_impl_MGetMut
  have hn : kn = ks.length := hk.1
  have htl := treeO_len [] xs
  have S := St.start hG
  refine st_callT S [.ck c] (fun G hG => c_growMap hd hx hxl hG) ?_
  rintro _ _ _ ⟨m, rfl, rfl⟩ S
  dsimp only [List.cons_append, List.nil_append] at S
  have S := sl_nil LF S
  refine w_bnd (w_lp (fun r y h' => ∃ (i : Nat) (s : SlT), y = ((i : Int), s, ()) ∧ i + r = kn ∧ OwnL LF s (gO (treeO [] xs) (ks.take i)) ∧ St h G [c, MI.MpC 0 (MI.dgOf d) (m, 0) (treeO [] xs), SlC s LF.sz (LF.flat (gO (treeO [] xs) (ks.take i)))] h') kn rfl
    ⟨0, (none, 0, 0), rfl, by omega, ⟨rfl, Nat.le_refl _, .inl rfl⟩, S.only [.ck c, .mp (m, 0), .sl (none, 0, 0)]⟩ ?_)
  rintro r _ _ ⟨i, s, rfl, hi, hs, S⟩
  by_cases hlt : i < kn
  · obtain ⟨p, hp, hro⟩ := hk.ptr (by omega)
    dsimp only at hp
    subst hp
    have hxi := List.getElem?_eq_getElem (show i < ks.length by omega)
    have hsl : (gO (treeO [] xs) (ks.take i)).length = i := by rw [gO_len, List.length_take]; omega
    obtain ⟨s1, s2, s3⟩ := s
    simp only [Int.toNat_natCast, toNat_succ, toNat_succ2, toNat_pred]
    refine w_true (lt_t (by (first | omega | ((try dsimp only [Sh.T, Sh1.T]); omega)))) ?_
    repeat (first | refine w_nonnil ?_ | refine ld_int S rfl ?_ | refine ld_some S rfl ?_ | refine ld_ptr S _ rfl ?_ | refine ld_sls S rfl ?_ | refine ld_nil S rfl ?_ | refine ld_bool S rfl ?_ | refine st_store S (lt_ble rfl) fun _ S => ?_ | refine st_alloc S fun _ _ S => ?_ | refine st_held S rfl ?_ | refine w_guard (by (first | exact inK64 (by omega) (by omega) | omega | (constructor <;> omega) | ((try dsimp only [Sh.T, Sh1.T]); first | exact inK64 (by omega) (by omega) | omega | exact ⟨by decide, inK64 (by omega) (by omega)⟩ | trivial))) ?_ | refine bd_n rfl ?_ | refine bd_e rfl ?_ | refine bd_r ?_ | refine bd_p ?_ | refine ln_r ?_ | refine ln_e ?_ | refine w_true (b := true) rfl ?_ | refine w_false (b := false) rfl ?_ | refine w_item (S.rdr hrd) (by assumption) ?_ | refine h_item (S.rdr hrd) (by assumption) ?_ | refine w_num (S.rdr hro) (by assumption) ?_ | refine ld_sln S rfl ?_ | refine ld_sl S _ _ _ rfl ?_)
    refine st_callV S [.mp (m, 0)] (args' := [.c (.addr (m, 0)), .c (.int .i64 ks[i])]) rfl (fun G hG => MI.c_GetMut (by omega) hG) ?_
    rintro _ _ _ ⟨rfl, rfl⟩ S
    dsimp only [List.cons_append, List.nil_append] at S
    refine st_callT S [] (fun G hG => c_pair hG) ?_
    rintro _ _ _ ⟨rfl, rfl⟩ S
    dsimp only [List.cons_append, List.nil_append] at S
    repeat (first | refine w_nonnil ?_ | refine ld_int S rfl ?_ | refine ld_some S rfl ?_ | refine ld_ptr S _ rfl ?_ | refine ld_sls S rfl ?_ | refine ld_nil S rfl ?_ | refine ld_bool S rfl ?_ | refine st_store S (lt_ble rfl) fun _ S => ?_ | refine st_alloc S fun _ _ S => ?_ | refine st_held S rfl ?_ | refine w_guard (by (first | exact inK64 (by omega) (by omega) | omega | (constructor <;> omega) | ((try dsimp only [Sh.T, Sh1.T]); first | exact inK64 (by omega) (by omega) | omega | exact ⟨by decide, inK64 (by omega) (by omega)⟩ | trivial))) ?_ | refine bd_n rfl ?_ | refine bd_e rfl ?_ | refine bd_r ?_ | refine bd_p ?_ | refine ln_r ?_ | refine ln_e ?_ | refine w_true (b := true) rfl ?_ | refine w_false (b := false) rfl ?_ | refine w_item (S.rdr hrd) (by assumption) ?_ | refine h_item (S.rdr hrd) (by assumption) ?_ | refine w_num (S.rdr hro) (by assumption) ?_ | refine ld_sln S rfl ?_ | refine ld_sl S _ _ _ rfl ?_)
    refine st_apo (L := LF) (xs := gO (treeO [] xs) (ks.take i)) (y := if (MI.getR (treeO [] xs) ks[i]).2.1 then some (ks[i], (MI.getR (treeO [] xs) ks[i]).1) else none) S hs rfl rfl (S.rsl (LF.flat [_]) 1 1 3 (fun i v h => by rw [Nat.zero_add]; exact h) rfl) ⟨by omega, by omega⟩ fun s' _ hs' S => ?_
    rw [← gO_snoc (by omega)] at S hs'
    repeat (first | refine w_nonnil ?_ | refine ld_int S rfl ?_ | refine ld_some S rfl ?_ | refine ld_ptr S _ rfl ?_ | refine ld_sls S rfl ?_ | refine ld_nil S rfl ?_ | refine ld_bool S rfl ?_ | refine st_store S (lt_ble rfl) fun _ S => ?_ | refine st_alloc S fun _ _ S => ?_ | refine st_held S rfl ?_ | refine w_guard (by (first | exact inK64 (by omega) (by omega) | omega | (constructor <;> omega) | ((try dsimp only [Sh.T, Sh1.T]); first | exact inK64 (by omega) (by omega) | omega | exact ⟨by decide, inK64 (by omega) (by omega)⟩ | trivial))) ?_ | refine bd_n rfl ?_ | refine bd_e rfl ?_ | refine bd_r ?_ | refine bd_p ?_ | refine ln_r ?_ | refine ln_e ?_ | refine w_true (b := true) rfl ?_ | refine w_false (b := false) rfl ?_ | refine w_item (S.rdr hrd) (by assumption) ?_ | refine h_item (S.rdr hrd) (by assumption) ?_ | refine w_num (S.rdr hro) (by assumption) ?_ | refine ld_sln S rfl ?_ | refine ld_sl S _ _ _ rfl ?_)
    exact ln_n rfl (r - 1) ⟨i + 1, s', rfl, by omega, hs', S.only [.ck c, .mp (m, 0), .sl s']⟩ (by omega)
  · refine w_false (lt_f (by (first | omega | ((try dsimp only [Sh.T, Sh1.T]); omega)))) (ln_e (bd_e rfl (rt_1 rfl ⟨_, ⟨s, rfl, ?_⟩, S.only [.ck c, .sl s]⟩)))
    rw [List.take_of_length_le (by omega)] at hs ⊢
    exact ⟨hs, rfl⟩
end
end Go.Proofs.Ytkhpbcckaenmcaa
