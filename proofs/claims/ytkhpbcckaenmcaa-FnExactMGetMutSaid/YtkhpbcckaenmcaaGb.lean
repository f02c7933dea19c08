/-
  The thin package: keys sought in a map. The reference: items out of keys. Conditions: none.
-/
import Derived.Test.YtkhpbcckaenmcaaIm
import Derived.Test.YtkhpbcckaenmcaaVa
import Derived.Test.YtkhpbcckaenmcaaGami
set_option linter.unusedVariables false
set_option linter.unusedSimpArgs false
set_option linter.unusedSectionVars false
set_option maxRecDepth 100000
namespace Go.Proofs.Ytkhpbcckaenmcaa
open Go

section
variable {h : H}
/-- Items out of keys. -/
def iO (ks : List Int) : List IV := ks.map fun k => (k, 0)
theorem iO_len (ks : List Int) : (iO ks).length = ks.length := List.length_map _
theorem iO_snoc {ks : List Int} {i : Nat} (h : i < ks.length) : iO (ks.take (i + 1)) = iO (ks.take i) ++ [(ks[i], 0)] := by rw [take_snoc h, iO, List.map_append]; rfl
theorem c_specItems {c : Ck} {xs : List Int} {sp : Option PA} {n cap : Nat} (hx : Rdr c (sp, n, cap) LN xs) (hxl : xs.length ≤ 4294967296) {G : PA → Prop} (hG : Star [c] h G) :
    HT Try.prog fn_spec_Items [.c (.sl sp n cap)] false [.c .sl] h fun r h' => ∃ post, (∃ s : SlT, r = (s, ()) ∧ OwnL LT s (iO xs) ∧ post = [c, SlC s LT.sz (LT.flat (iO xs))]) ∧ St h G post h' := by
  apply hc_spec_Items
  unfold M_spec_Items
  have hn : n = xs.length := hx.1
  have S := sl_nil LT (St.start hG)
  refine w_bnd (w_lp (fun r y h' => ∃ (i : Nat) (s : SlT), y = ((i : Int), s, ()) ∧ i + r = n ∧ OwnL LT s (iO (xs.take i)) ∧ St h G [c, SlC s LT.sz (LT.flat (iO (xs.take i)))] h') n rfl
    ⟨0, (none, 0, 0), rfl, by omega, ⟨rfl, Nat.le_refl _, .inl rfl⟩, S.pull1⟩ ?_)
  rintro r _ _ ⟨i, s, rfl, hi, hs, S⟩
  by_cases hlt : i < n
  · obtain ⟨p, hp, hro⟩ := hx.ptr (by omega)
    dsimp only at hp
    subst hp
    have hxi := List.getElem?_eq_getElem (show i < xs.length by omega)
    have hsl : (iO (xs.take i)).length = i := by rw [iO_len, List.length_take]; omega
    obtain ⟨s1, s2, s3⟩ := s
    simp only [Int.toNat_natCast, toNat_succ, toNat_succ2, toNat_pred]
    refine w_true (lt_t (by (first | omega | ((try dsimp only [Sh.T, Sh1.T]); omega)))) ?_
    repeat (first | refine w_nonnil ?_ | refine ld_int S rfl ?_ | refine ld_some S rfl ?_ | refine ld_ptr S _ rfl ?_ | refine ld_sls S rfl ?_ | refine ld_nil S rfl ?_ | refine ld_bool S rfl ?_ | refine st_store S (lt_ble rfl) fun _ S => ?_ | refine st_alloc S fun _ _ S => ?_ | refine st_held S rfl ?_ | refine w_guard (by (first | exact inK64 (by omega) (by omega) | omega | (constructor <;> omega) | ((try dsimp only [Sh.T, Sh1.T]); first | exact inK64 (by omega) (by omega) | omega | exact ⟨by decide, inK64 (by omega) (by omega)⟩ | trivial))) ?_ | refine bd_n rfl ?_ | refine bd_e rfl ?_ | refine bd_r ?_ | refine bd_p ?_ | refine ln_r ?_ | refine ln_e ?_ | refine w_true (b := true) rfl ?_ | refine w_false (b := false) rfl ?_ | refine w_item (S.rdr hrd) (by assumption) ?_ | refine h_item (S.rdr hrd) (by assumption) ?_ | refine w_num (S.rdr hro) (by assumption) ?_ | refine ld_sln S rfl ?_ | refine ld_sl S _ _ _ rfl ?_)
    refine st_apo (L := LT) (xs := iO (xs.take i)) (y := (xs[i], 0)) S hs rfl rfl (S.rsl (LT.flat [(xs[i], 0)]) 1 1 2 (fun i v h => by rw [Nat.zero_add]; exact h) rfl) ⟨by omega, by omega⟩ fun s' _ hs' S => ?_
    rw [← iO_snoc (by omega)] at S hs'
    repeat (first | refine w_nonnil ?_ | refine ld_int S rfl ?_ | refine ld_some S rfl ?_ | refine ld_ptr S _ rfl ?_ | refine ld_sls S rfl ?_ | refine ld_nil S rfl ?_ | refine ld_bool S rfl ?_ | refine st_store S (lt_ble rfl) fun _ S => ?_ | refine st_alloc S fun _ _ S => ?_ | refine st_held S rfl ?_ | refine w_guard (by (first | exact inK64 (by omega) (by omega) | omega | (constructor <;> omega) | ((try dsimp only [Sh.T, Sh1.T]); first | exact inK64 (by omega) (by omega) | omega | exact ⟨by decide, inK64 (by omega) (by omega)⟩ | trivial))) ?_ | refine bd_n rfl ?_ | refine bd_e rfl ?_ | refine bd_r ?_ | refine bd_p ?_ | refine ln_r ?_ | refine ln_e ?_ | refine w_true (b := true) rfl ?_ | refine w_false (b := false) rfl ?_ | refine w_item (S.rdr hrd) (by assumption) ?_ | refine h_item (S.rdr hrd) (by assumption) ?_ | refine w_num (S.rdr hro) (by assumption) ?_ | refine ld_sln S rfl ?_ | refine ld_sl S _ _ _ rfl ?_)
    exact ln_n rfl (r - 1) ⟨i + 1, s', rfl, by omega, hs', S.only [.ck c, .sl s']⟩ (by omega)
  · refine w_false (lt_f (by (first | omega | ((try dsimp only [Sh.T, Sh1.T]); omega)))) (ln_e (bd_e rfl (rt_1 rfl ⟨_, ⟨s, rfl, ?_⟩, S⟩)))
    rw [List.take_of_length_le (by omega)] at hs ⊢
    exact ⟨hs, rfl⟩
/-- What is found for keys. -/
def gO (l : List IV) (ks : List Int) : List (Option IV) := ks.map fun k => if (MI.getR l k).2.1 then some (k, (MI.getR l k).1) else none
theorem gO_len (l : List IV) (ks : List Int) : (gO l ks).length = ks.length := List.length_map _
theorem gO_snoc {l : List IV} {ks : List Int} {i : Nat} (h : i < ks.length) : gO l (ks.take (i + 1)) = gO l (ks.take i) ++ [if (MI.getR l ks[i]).2.1 then some (ks[i], (MI.getR l ks[i]).1) else none] := by
  rw [take_snoc h, gO, List.map_append]; rfl
theorem c_MGetMut {c : Ck} {d : Int} (hd : d ≤ 536870912) {xs : List IV} {sp : Option PA} {n cap : Nat} (hx : Rdr c (sp, n, cap) LT xs) (hxl : xs.length ≤ 2147483647) {ks : List Int} {kp : Option PA} {kn kc : Nat} (hk : Rdr c (kp, kn, kc) LN ks) (hkl : ks.length ≤ 2147483647) {G : PA → Prop} (hG : Star [c] h G) :
    HT Try.prog fn_impl_MGetMut [.c (.int .i64 d), .c (.sl sp n cap), .c (.sl kp kn kc)] false [.c .sl] h fun r h' => ∃ post, (∃ s : SlT, r = (s, ()) ∧ OwnL LF s (gO (treeO [] xs) ks) ∧ post = [c, SlC s LF.sz (LF.flat (gO (treeO [] xs) ks))]) ∧ St h G post h' := by
  apply hc_impl_MGetMut
  unfold M_impl_MGetMut
  have hn : kn = ks.length := hk.1
  have htl := treeO_len [] xs
  have S := St.start hG
  refine st_callT S [.ck c] (fun G hG => c_growMap hd hx hxl hG) ?_
  rintro _ _ _ ⟨m, rfl, rfl⟩ S
  dsimp only [List.cons_append, List.nil_append] at S
  have S := sl_nil LF S
  refine w_bnd (w_lp (fun r y h' => ∃ (i : Nat) (s : SlT), y = ((i : Int), s, ()) ∧ i + r = kn ∧ OwnL LF s (gO (treeO [] xs) (ks.take i)) ∧ St h G [c, MI.MpC 0 (MI.dgOf d) (m, 0) (treeO [] xs), SlC s LF.sz (LF.flat (gO (treeO [] xs) (ks.take i)))] h') kn rfl
    ⟨0, (none, 0, 0), rfl, by omega, ⟨rfl, Nat.le_refl _, .inl rfl⟩, S.only [.ck c, .mp (m, 0), .sl (none, 0, 0)]⟩ ?_)
  rintro r _ _ ⟨i, s, rfl, hi, hs, S⟩
  by_cases hlt : i < kn
  · obtain ⟨p, hp, hro⟩ := hk.ptr (by omega)
    dsimp only at hp
    subst hp
    have hxi := List.getElem?_eq_getElem (show i < ks.length by omega)
    have hsl : (gO (treeO [] xs) (ks.take i)).length = i := by rw [gO_len, List.length_take]; omega
    obtain ⟨s1, s2, s3⟩ := s
    simp only [Int.toNat_natCast, toNat_succ, toNat_succ2, toNat_pred]
    refine w_true (lt_t (by (first | omega | ((try dsimp only [Sh.T, Sh1.T]); omega)))) ?_
    repeat (first | refine w_nonnil ?_ | refine ld_int S rfl ?_ | refine ld_some S rfl ?_ | refine ld_ptr S _ rfl ?_ | refine ld_sls S rfl ?_ | refine ld_nil S rfl ?_ | refine ld_bool S rfl ?_ | refine st_store S (lt_ble rfl) fun _ S => ?_ | refine st_alloc S fun _ _ S => ?_ | refine st_held S rfl ?_ | refine w_guard (by (first | exact inK64 (by omega) (by omega) | omega | (constructor <;> omega) | ((try dsimp only [Sh.T, Sh1.T]); first | exact inK64 (by omega) (by omega) | omega | exact ⟨by decide, inK64 (by omega) (by omega)⟩ | trivial))) ?_ | refine bd_n rfl ?_ | refine bd_e rfl ?_ | refine bd_r ?_ | refine bd_p ?_ | refine ln_r ?_ | refine ln_e ?_ | refine w_true (b := true) rfl ?_ | refine w_false (b := false) rfl ?_ | refine w_item (S.rdr hrd) (by assumption) ?_ | refine h_item (S.rdr hrd) (by assumption) ?_ | refine w_num (S.rdr hro) (by assumption) ?_ | refine ld_sln S rfl ?_ | refine ld_sl S _ _ _ rfl ?_)
    refine st_callV S [.mp (m, 0)] (args' := [.c (.addr (m, 0)), .c (.int .i64 ks[i])]) rfl (fun G hG => MI.c_GetMut (by omega) hG) ?_
    rintro _ _ _ ⟨rfl, rfl⟩ S
    dsimp only [List.cons_append, List.nil_append] at S
    refine st_callT S [] (fun G hG => c_pair hG) ?_
    rintro _ _ _ ⟨rfl, rfl⟩ S
    dsimp only [List.cons_append, List.nil_append] at S
    repeat (first | refine w_nonnil ?_ | refine ld_int S rfl ?_ | refine ld_some S rfl ?_ | refine ld_ptr S _ rfl ?_ | refine ld_sls S rfl ?_ | refine ld_nil S rfl ?_ | refine ld_bool S rfl ?_ | refine st_store S (lt_ble rfl) fun _ S => ?_ | refine st_alloc S fun _ _ S => ?_ | refine st_held S rfl ?_ | refine w_guard (by (first | exact inK64 (by omega) (by omega) | omega | (constructor <;> omega) | ((try dsimp only [Sh.T, Sh1.T]); first | exact inK64 (by omega) (by omega) | omega | exact ⟨by decide, inK64 (by omega) (by omega)⟩ | trivial))) ?_ | refine bd_n rfl ?_ | refine bd_e rfl ?_ | refine bd_r ?_ | refine bd_p ?_ | refine ln_r ?_ | refine ln_e ?_ | refine w_true (b := true) rfl ?_ | refine w_false (b := false) rfl ?_ | refine w_item (S.rdr hrd) (by assumption) ?_ | refine h_item (S.rdr hrd) (by assumption) ?_ | refine w_num (S.rdr hro) (by assumption) ?_ | refine ld_sln S rfl ?_ | refine ld_sl S _ _ _ rfl ?_)
    refine st_apo (L := LF) (xs := gO (treeO [] xs) (ks.take i)) (y := if (MI.getR (treeO [] xs) ks[i]).2.1 then some (ks[i], (MI.getR (treeO [] xs) ks[i]).1) else none) S hs rfl rfl (S.rsl (LF.flat [_]) 1 1 3 (fun i v h => by rw [Nat.zero_add]; exact h) rfl) ⟨by omega, by omega⟩ fun s' _ hs' S => ?_
    rw [← gO_snoc (by omega)] at S hs'
    repeat (first | refine w_nonnil ?_ | refine ld_int S rfl ?_ | refine ld_some S rfl ?_ | refine ld_ptr S _ rfl ?_ | refine ld_sls S rfl ?_ | refine ld_nil S rfl ?_ | refine ld_bool S rfl ?_ | refine st_store S (lt_ble rfl) fun _ S => ?_ | refine st_alloc S fun _ _ S => ?_ | refine st_held S rfl ?_ | refine w_guard (by (first | exact inK64 (by omega) (by omega) | omega | (constructor <;> omega) | ((try dsimp only [Sh.T, Sh1.T]); first | exact inK64 (by omega) (by omega) | omega | exact ⟨by decide, inK64 (by omega) (by omega)⟩ | trivial))) ?_ | refine bd_n rfl ?_ | refine bd_e rfl ?_ | refine bd_r ?_ | refine bd_p ?_ | refine ln_r ?_ | refine ln_e ?_ | refine w_true (b := true) rfl ?_ | refine w_false (b := false) rfl ?_ | refine w_item (S.rdr hrd) (by assumption) ?_ | refine h_item (S.rdr hrd) (by assumption) ?_ | refine w_num (S.rdr hro) (by assumption) ?_ | refine ld_sln S rfl ?_ | refine ld_sl S _ _ _ rfl ?_)
    exact ln_n rfl (r - 1) ⟨i + 1, s', rfl, by omega, hs', S.only [.ck c, .mp (m, 0), .sl s']⟩ (by omega)
  · refine w_false (lt_f (by (first | omega | ((try dsimp only [Sh.T, Sh1.T]); omega)))) (ln_e (bd_e rfl (rt_1 rfl ⟨_, ⟨s, rfl, ?_⟩, S.only [.ck c, .sl s]⟩)))
    rw [List.take_of_length_le (by omega)] at hs ⊢
    exact ⟨hs, rfl⟩
end
end Go.Proofs.Ytkhpbcckaenmcaa
