/-
  The reference: items sought. Conditions: none.
-/
import Derived.Test.YtkhpbcckaenmcaaVa
set_option linter.unusedVariables false
set_option linter.unusedSimpArgs false
set_option linter.unusedSectionVars false
set_option maxRecDepth 100000
namespace Go.Proofs.Ytkhpbcckaenmcaa
open Go

section
variable {h : H}
/-- What the reference finds for items. -/
def q1 (t : List IV) (x : IV) : Option IV := if (fnd (ltO []) t x).isSome = true then atO t (pos (ltO []) t x) else none
def qO (t ks : List IV) : List (Option IV) := ks.map (q1 t)
theorem qO_len (t ks : List IV) : (qO t ks).length = ks.length := List.length_map _
theorem qO_snoc {t ks : List IV} {i : Nat} (h : i < ks.length) : qO t (ks.take (i + 1)) = qO t (ks.take i) ++ [q1 t ks[i]] := by rw [take_snoc h, qO, List.map_append]; rfl
set_option maxHeartbeats 1000000 in
theorem c_specGGet {c : Ck} {d : Int} {nl : Bool} {xs : List IV} {sp : Option PA} {n cap : Nat} (hx : Rdr c (sp, n, cap) LT xs) (hxl : xs.length ≤ 4294967296) {ks : List IV} {kp : Option PA} {kn kc : Nat} (hk : Rdr c (kp, kn, kc) LT ks) (hkl : ks.length ≤ 4294967296) {G : PA → Prop} (hG : Star [c] h G) :
    HT Try.prog fn_spec_GGet [.agg [.sl none 0 0, .int .i64 d, .bool nl], .c (.sl sp n cap), .c (.sl kp kn kc)] false [.c .sl] h fun r h' => ∃ post, (∃ s : SlT, r = (s, ()) ∧ OwnL LF s (qO (treeO [] xs) ks) ∧ post = [c, SlC s LF.sz (LF.flat (qO (treeO [] xs) ks))]) ∧ St h G post h' := by
  apply hc_spec_GGet
  unfold M_spec_GGet
  have hn : kn = ks.length := hk.1
  have htl := treeO_len [] xs
  have S := St.start hG
  refine st_alloc S fun n0 _ S => ?_
  refine ld_sl S none 0 0 rfl ?_
  refine st_callT S [.ck c] (fun G hG => c_Tree (o := []) Rdr.nil (by decide) hx hxl hG) ?_
  rintro _ _ _ ⟨⟨tp, tn, tc⟩, rfl, ht, rfl⟩ S
  dsimp only [List.cons_append, List.nil_append] at S
  have S := sl_nil LF S
  refine w_bnd (w_lp (fun r y h' => ∃ (i : Nat) (s : SlT), y = ((i : Int), s, ()) ∧ i + r = kn ∧ OwnL LF s (qO (treeO [] xs) (ks.take i)) ∧ St h G [c, Ow (n0, 0) (List.map Cell.val [.sl none 0 0, .int .i64 d, .bool nl]) 0, SlC (tp, tn, tc) LT.sz (LT.flat (treeO [] xs)), SlC s LF.sz (LF.flat (qO (treeO [] xs) (ks.take i)))] h') kn rfl
    ⟨0, (none, 0, 0), rfl, by omega, ⟨rfl, Nat.le_refl _, .inl rfl⟩, S.only [.ck c, .ow (n0, 0), .sl (tp, tn, tc), .sl (none, 0, 0)]⟩ ?_)
  rintro r _ _ ⟨i, s, rfl, hi, hs, S⟩
  by_cases hlt : i < kn
  · obtain ⟨p, hp, hrd⟩ := hk.ptr (by omega)
    dsimp only at hp
    subst hp
    have hxi := List.getElem?_eq_getElem (show i < ks.length by omega)
    have hsl : (qO (treeO [] xs) (ks.take i)).length = i := by rw [qO_len, List.length_take]; omega
    obtain ⟨s1, s2, s3⟩ := s
    simp only [Int.toNat_natCast, toNat_succ, toNat_succ2, toNat_pred]
    refine w_true (lt_t (by (first | omega | ((try dsimp only [Sh.T, Sh1.T]); omega)))) ?_
    repeat (first | refine w_nonnil ?_ | refine ld_int S rfl ?_ | refine ld_some S rfl ?_ | refine ld_ptr S _ rfl ?_ | refine ld_sls S rfl ?_ | refine ld_nil S rfl ?_ | refine ld_bool S rfl ?_ | refine st_store S (lt_ble rfl) fun _ S => ?_ | refine st_alloc S fun _ _ S => ?_ | refine st_held S rfl ?_ | refine w_guard (by (first | exact inK64 (by omega) (by omega) | omega | (constructor <;> omega) | ((try dsimp only [Sh.T, Sh1.T]); first | exact inK64 (by omega) (by omega) | omega | exact ⟨by decide, inK64 (by omega) (by omega)⟩ | trivial))) ?_ | refine bd_n rfl ?_ | refine bd_e rfl ?_ | refine bd_r ?_ | refine bd_p ?_ | refine ln_r ?_ | refine ln_e ?_ | refine w_true (b := true) rfl ?_ | refine w_false (b := false) rfl ?_ | refine w_item (S.rdr hrd) (by assumption) ?_ | refine h_item (S.rdr hrd) (by assumption) ?_ | refine w_num (S.rdr hro) (by assumption) ?_ | refine ld_sln S rfl ?_ | refine ld_sl S _ _ _ rfl ?_)
    refine st_callT S [.sl (tp, tn, tc)] (fun G hG => c_Place (o := []) (x := ks[i]) Rdr.nil (by decide) ht.rdr (by omega) hG) ?_
    rintro _ _ _ ⟨rfl, rfl⟩ S
    dsimp only [List.cons_append, List.nil_append] at S
    refine w_bnd ?_
    cases hf : (fnd (ltO []) (treeO [] xs) ks[i]).isSome with
    | true =>
      refine w_true rfl ?_
      refine st_callT S [.sl (tp, tn, tc)] (fun G hG => c_At ht.rdr (by omega) hG) ?_
      rintro _ _ _ ⟨rfl, rfl⟩ S
      dsimp only [List.cons_append, List.nil_append] at S
      have hq : atO (treeO [] xs) (pos (ltO []) (treeO [] xs) ks[i]) = q1 (treeO [] xs) ks[i] := by rw [q1, if_pos hf]
      rw [hq] at *
      repeat (first | refine w_nonnil ?_ | refine ld_int S rfl ?_ | refine ld_some S rfl ?_ | refine ld_ptr S _ rfl ?_ | refine ld_sls S rfl ?_ | refine ld_nil S rfl ?_ | refine ld_bool S rfl ?_ | refine st_store S (lt_ble rfl) fun _ S => ?_ | refine st_alloc S fun _ _ S => ?_ | refine st_held S rfl ?_ | refine w_guard (by (first | exact inK64 (by omega) (by omega) | omega | (constructor <;> omega) | ((try dsimp only [Sh.T, Sh1.T]); first | exact inK64 (by omega) (by omega) | omega | exact ⟨by decide, inK64 (by omega) (by omega)⟩ | trivial))) ?_ | refine bd_n rfl ?_ | refine bd_e rfl ?_ | refine bd_r ?_ | refine bd_p ?_ | refine ln_r ?_ | refine ln_e ?_ | refine w_true (b := true) rfl ?_ | refine w_false (b := false) rfl ?_ | refine w_item (S.rdr hrd) (by assumption) ?_ | refine h_item (S.rdr hrd) (by assumption) ?_ | refine w_num (S.rdr hro) (by assumption) ?_ | refine ld_sln S rfl ?_ | refine ld_sl S _ _ _ rfl ?_)
      try (refine bd_n rfl ?_)
      repeat (first | refine w_nonnil ?_ | refine ld_int S rfl ?_ | refine ld_some S rfl ?_ | refine ld_ptr S _ rfl ?_ | refine ld_sls S rfl ?_ | refine ld_nil S rfl ?_ | refine ld_bool S rfl ?_ | refine st_store S (lt_ble rfl) fun _ S => ?_ | refine st_alloc S fun _ _ S => ?_ | refine st_held S rfl ?_ | refine w_guard (by (first | exact inK64 (by omega) (by omega) | omega | (constructor <;> omega) | ((try dsimp only [Sh.T, Sh1.T]); first | exact inK64 (by omega) (by omega) | omega | exact ⟨by decide, inK64 (by omega) (by omega)⟩ | trivial))) ?_ | refine bd_n rfl ?_ | refine bd_e rfl ?_ | refine bd_r ?_ | refine bd_p ?_ | refine ln_r ?_ | refine ln_e ?_ | refine w_true (b := true) rfl ?_ | refine w_false (b := false) rfl ?_ | refine w_item (S.rdr hrd) (by assumption) ?_ | refine h_item (S.rdr hrd) (by assumption) ?_ | refine w_num (S.rdr hro) (by assumption) ?_ | refine ld_sln S rfl ?_ | refine ld_sl S _ _ _ rfl ?_)
      refine st_apo (L := LF) (xs := qO (treeO [] xs) (ks.take i)) (y := q1 (treeO [] xs) ks[i]) S hs rfl rfl (S.rsl (LF.flat [_]) 1 1 3 (fun i v h => by rw [Nat.zero_add]; exact h) rfl) ⟨by omega, by omega⟩ fun s' _ hs' S => ?_
      rw [← qO_snoc (by omega)] at S hs'
      repeat (first | refine w_nonnil ?_ | refine ld_int S rfl ?_ | refine ld_some S rfl ?_ | refine ld_ptr S _ rfl ?_ | refine ld_sls S rfl ?_ | refine ld_nil S rfl ?_ | refine ld_bool S rfl ?_ | refine st_store S (lt_ble rfl) fun _ S => ?_ | refine st_alloc S fun _ _ S => ?_ | refine st_held S rfl ?_ | refine w_guard (by (first | exact inK64 (by omega) (by omega) | omega | (constructor <;> omega) | ((try dsimp only [Sh.T, Sh1.T]); first | exact inK64 (by omega) (by omega) | omega | exact ⟨by decide, inK64 (by omega) (by omega)⟩ | trivial))) ?_ | refine bd_n rfl ?_ | refine bd_e rfl ?_ | refine bd_r ?_ | refine bd_p ?_ | refine ln_r ?_ | refine ln_e ?_ | refine w_true (b := true) rfl ?_ | refine w_false (b := false) rfl ?_ | refine w_item (S.rdr hrd) (by assumption) ?_ | refine h_item (S.rdr hrd) (by assumption) ?_ | refine w_num (S.rdr hro) (by assumption) ?_ | refine ld_sln S rfl ?_ | refine ld_sl S _ _ _ rfl ?_)
      exact ln_n rfl (r - 1) ⟨i + 1, s', rfl, by omega, hs', S.only [.ck c, .ow (n0, 0), .sl (tp, tn, tc), .sl s']⟩ (by omega)
    | false =>
      refine w_false rfl (bd_n rfl ?_)
      have hq : q1 (treeO [] xs) ks[i] = none := by rw [q1, if_neg (by rw [hf]; decide)]
      repeat (first | refine w_nonnil ?_ | refine ld_int S rfl ?_ | refine ld_some S rfl ?_ | refine ld_ptr S _ rfl ?_ | refine ld_sls S rfl ?_ | refine ld_nil S rfl ?_ | refine ld_bool S rfl ?_ | refine st_store S (lt_ble rfl) fun _ S => ?_ | refine st_alloc S fun _ _ S => ?_ | refine st_held S rfl ?_ | refine w_guard (by (first | exact inK64 (by omega) (by omega) | omega | (constructor <;> omega) | ((try dsimp only [Sh.T, Sh1.T]); first | exact inK64 (by omega) (by omega) | omega | exact ⟨by decide, inK64 (by omega) (by omega)⟩ | trivial))) ?_ | refine bd_n rfl ?_ | refine bd_e rfl ?_ | refine bd_r ?_ | refine bd_p ?_ | refine ln_r ?_ | refine ln_e ?_ | refine w_true (b := true) rfl ?_ | refine w_false (b := false) rfl ?_ | refine w_item (S.rdr hrd) (by assumption) ?_ | refine h_item (S.rdr hrd) (by assumption) ?_ | refine w_num (S.rdr hro) (by assumption) ?_ | refine ld_sln S rfl ?_ | refine ld_sl S _ _ _ rfl ?_)
      refine st_apo (L := LF) (xs := qO (treeO [] xs) (ks.take i)) (y := none) S hs rfl rfl (S.rsl (LF.flat [none]) 1 1 3 (fun i v h => by rw [Nat.zero_add]; exact h) rfl) ⟨by omega, by omega⟩ fun s' _ hs' S => ?_
      rw [← hq, ← qO_snoc (by omega)] at S hs'
      repeat (first | refine w_nonnil ?_ | refine ld_int S rfl ?_ | refine ld_some S rfl ?_ | refine ld_ptr S _ rfl ?_ | refine ld_sls S rfl ?_ | refine ld_nil S rfl ?_ | refine ld_bool S rfl ?_ | refine st_store S (lt_ble rfl) fun _ S => ?_ | refine st_alloc S fun _ _ S => ?_ | refine st_held S rfl ?_ | refine w_guard (by (first | exact inK64 (by omega) (by omega) | omega | (constructor <;> omega) | ((try dsimp only [Sh.T, Sh1.T]); first | exact inK64 (by omega) (by omega) | omega | exact ⟨by decide, inK64 (by omega) (by omega)⟩ | trivial))) ?_ | refine bd_n rfl ?_ | refine bd_e rfl ?_ | refine bd_r ?_ | refine bd_p ?_ | refine ln_r ?_ | refine ln_e ?_ | refine w_true (b := true) rfl ?_ | refine w_false (b := false) rfl ?_ | refine w_item (S.rdr hrd) (by assumption) ?_ | refine h_item (S.rdr hrd) (by assumption) ?_ | refine w_num (S.rdr hro) (by assumption) ?_ | refine ld_sln S rfl ?_ | refine ld_sl S _ _ _ rfl ?_)
      exact ln_n rfl (r - 1) ⟨i + 1, s', rfl, by omega, hs', S.only [.ck c, .ow (n0, 0), .sl (tp, tn, tc), .sl s']⟩ (by omega)
  · refine w_false (lt_f (by (first | omega | ((try dsimp only [Sh.T, Sh1.T]); omega)))) (ln_e (bd_e rfl (rt_1 rfl ⟨_, ⟨s, rfl, ?_⟩, S.only [.ck c, .sl s]⟩)))
    rw [List.take_of_length_le (by omega)] at hs ⊢
    exact ⟨hs, rfl⟩
end
end Go.Proofs.Ytkhpbcckaenmcaa
