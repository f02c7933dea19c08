/-
  The place of a number in a list. Conditions: none.
-/
import Derived.Test.YtkhpbcckaenmcaaVa
import Derived.Test.YtkhpbcckaenmcaaBe
set_option linter.unusedVariables false
set_option linter.unusedSimpArgs false
set_option linter.unusedSectionVars false
set_option maxRecDepth 100000
namespace Go.Proofs.Ytkhpbcckaenmcaa
open Go

def M_slices_Index_int_int (a0p : Option PA) (a0l : Nat) (a0c : Nat) (a1 : Int) : M :=
  .bind (some 0) (.loop [.c (.int .i64)] [.c (.int .i64 (0))] fun y0 =>
      .ite (decide (y0.fst < (↑a0l : Int)))
      (.nonnil (a0p) fun p1 =>
        .guard (((0 : Int) ≤ y0.fst) ∧ ((y0.fst : Int) < (↑a0l : Int))) <|
        .load (p1.fst, p1.snd + Int.toNat y0.fst) (.int .i64) fun i2 =>
        .ite (a1 == i2)
        (.done .ret [.c (.int .i64 (y0.fst))])
        (.guard (InK IntKind.i64 (y0.fst + 1)) <|
          .done .normal [.c (.int .i64 (y0.fst + 1))]))
      (.done (.exit 0) [])) [] fun x3 =>
  .done .ret [.c (.int .i64 (-1))]

theorem den_slices_Index_int_int (a0p : Option PA) (a0l : Nat) (a0c : Nat) (a1 : Int) : denFn Try.prog Try.f39 [.c (.sl a0p a0l a0c), .c (.int .i64 a1)] = M_slices_Index_int_int a0p a0l a0c a1 := by kernel_rfl
theorem hc_slices_Index_int_int (a0p : Option PA) (a0l : Nat) (a0c : Nat) (a1 : Int) {h : H} {R : Value → H → Prop} (hw : wp Try.prog (M_slices_Index_int_int a0p a0l a0c a1) (Ret R) h) : HC Try.prog fn_slices_Index_int_int (List.map AV.val [.c (.sl a0p a0l a0c), .c (.int .i64 a1)]).toArray h R :=
  den_calls hmix Try.func39 (of_decide_eq_true rfl) (by rw [den_slices_Index_int_int]; exact hw)


section
variable {h : H}
theorem c_Index {c : Ck} {xs : List Int} {sp : Option PA} {n cap : Nat} {k : Int} (hx : Rdr c (sp, n, cap) LN xs) (hl : xs.length ≤ 4294967296) {G : PA → Prop} (hG : Star [c] h G) :
    HT Try.prog fn_slices_Index_int_int [.c (.sl sp n cap), .c (.int .i64 k)] false [.c (.int .i64)] h fun r h' => ∃ post, ((∃ i : Int, r = (i, ()) ∧ (k ∉ xs ∧ i = -1 ∨ ∃ j : Nat, i = j ∧ xs[j]? = some k)) ∧ post = [c]) ∧ St h G post h' := by
  apply hc_slices_Index_int_int
  unfold M_slices_Index_int_int
  have hn : n = xs.length := hx.1
  have S := St.start hG
  refine w_bnd (w_lp (fun r y h' => ∃ i : Nat, y = ((i : Int), ()) ∧ i + r = n ∧ k ∉ xs.take i ∧ St h G [c] h') n rfl ⟨0, rfl, by omega, by simp, S⟩ ?_)
  rintro r _ _ ⟨i, rfl, hi, he, S⟩
  by_cases hlt : i < n
  · obtain ⟨p, hp, hro⟩ := hx.ptr (by omega)
    dsimp only at hp
    subst hp
    have hxi := List.getElem?_eq_getElem (show i < xs.length by omega)
    simp only [Int.toNat_natCast, toNat_succ, toNat_succ2, toNat_pred]
    refine w_true (lt_t (by (first | omega | ((try dsimp only [Sh.T, Sh1.T]); omega)))) ?_
    refine w_nonnil (w_guard ⟨by (first | omega | ((try dsimp only [Sh.T, Sh1.T]); omega)), by (first | omega | ((try dsimp only [Sh.T, Sh1.T]); omega))⟩ (w_num (S.rdr hro) hxi ?_))
    by_cases hv : k = xs[i]
    · refine w_true (by simp [hv]) ?_
      exact ln_r (bd_r (rt_1 rfl ⟨_, ⟨⟨_, rfl, .inr ⟨i, rfl, by rw [hxi, hv]⟩⟩, rfl⟩, S⟩))
    · refine w_false (by simp [hv]) ?_
      repeat (first | refine w_nonnil ?_ | refine ld_int S rfl ?_ | refine ld_some S rfl ?_ | refine ld_ptr S _ rfl ?_ | refine ld_sls S rfl ?_ | refine ld_nil S rfl ?_ | refine ld_bool S rfl ?_ | refine st_store S (lt_ble rfl) fun _ S => ?_ | refine st_alloc S fun _ _ S => ?_ | refine st_held S rfl ?_ | refine w_guard (by (first | exact inK64 (by omega) (by omega) | omega | (constructor <;> omega) | ((try dsimp only [Sh.T, Sh1.T]); first | exact inK64 (by omega) (by omega) | omega | exact ⟨by decide, inK64 (by omega) (by omega)⟩ | trivial))) ?_ | refine bd_n rfl ?_ | refine bd_e rfl ?_ | refine bd_r ?_ | refine bd_p ?_ | refine ln_r ?_ | refine ln_e ?_ | refine w_true (b := true) rfl ?_ | refine w_false (b := false) rfl ?_ | refine w_item (S.rdr hrd) (by assumption) ?_ | refine h_item (S.rdr hrd) (by assumption) ?_ | refine w_num (S.rdr hro) (by assumption) ?_ | refine ld_sln S rfl ?_ | refine ld_sl S _ _ _ rfl ?_)
      exact ln_n rfl (r - 1) ⟨i + 1, rfl, by omega, by rw [take_snoc (by omega)]; simp only [List.mem_append, List.mem_singleton]; exact fun h => h.elim he hv, S⟩ (by omega)
  · refine w_false (lt_f (by (first | omega | ((try dsimp only [Sh.T, Sh1.T]); omega)))) (ln_e (bd_e rfl (rt_1 rfl ⟨_, ⟨⟨_, rfl, .inl ⟨?_, rfl⟩⟩, rfl⟩, S⟩)))
    rw [List.take_of_length_le (by omega)] at he
    exact he
end
end Go.Proofs.Ytkhpbcckaenmcaa
