/-
  'slices.Equal' at one list that lies in two places. Conditions: none.
-/
import Derived.Test.YtlhbdmjeomffhaaVa
set_option linter.unusedVariables false
set_option linter.unusedSimpArgs false
set_option linter.unusedSectionVars false
set_option maxRecDepth 100000
namespace Go.Proofs.Ytlhbdmjeomffhaa
open Go
def M_slices_Equal_impl_Found_impl_Found (a0p : Option PA) (a0l : Nat) (a0c : Nat) (a1p : Option PA) (a1l : Nat) (a1c : Nat) : M :=
  .ite ((↑a0l : Int) != (↑a1l : Int))
  (.done .ret [.c (.ff)])
  (.bind (some 0) (.loop [.c (.int .i64)] [.c (.int .i64 (0))] fun y0 =>
        .ite (decide (y0.fst < (↑a0l : Int)))
        (.nonnil (a0p) fun p1 =>
          .guard (((0 : Int) ≤ y0.fst) ∧ ((y0.fst : Int) < (↑a0l : Int))) <|
          .load (p1.fst, p1.snd + mulN (Int.toNat y0.fst) 3) (.int .i64) fun i2 =>
          .load (p1.fst, p1.snd + mulN (Int.toNat y0.fst) 3 + 1) (.int .i64) fun i3 =>
          .load (p1.fst, p1.snd + mulN (Int.toNat y0.fst) 3 + 2) (.bool) fun b4 =>
          .nonnil (a1p) fun p5 =>
          .guard (((0 : Int) ≤ y0.fst) ∧ ((y0.fst : Int) < (↑a1l : Int))) <|
          .load (p5.fst, p5.snd + mulN (Int.toNat y0.fst) 3) (.int .i64) fun i6 =>
          .load (p5.fst, p5.snd + mulN (Int.toNat y0.fst) 3 + 1) (.int .i64) fun i7 =>
          .load (p5.fst, p5.snd + mulN (Int.toNat y0.fst) 3 + 2) (.bool) fun b8 =>
          .ite (!(i2 == i6 && (i3 == i7 && true) && (b4 == b8 && true)))
          (.done .ret [.c (.ff)])
          (.guard (InK IntKind.i64 (y0.fst + 1)) <|
            .done .normal [.c (.int .i64 (y0.fst + 1))]))
        (.done (.exit 0) [])) [] fun x9 =>
    .done .ret [.c (.tt)])
theorem den_slices_Equal_impl_Found_impl_Found (a0p : Option PA) (a0l : Nat) (a0c : Nat) (a1p : Option PA) (a1l : Nat) (a1c : Nat) : denFn Try.prog Try.f44 [.c (.sl a0p a0l a0c), .c (.sl a1p a1l a1c)] = M_slices_Equal_impl_Found_impl_Found a0p a0l a0c a1p a1l a1c := by kernel_rfl
theorem hc_slices_Equal_impl_Found_impl_Found (a0p : Option PA) (a0l : Nat) (a0c : Nat) (a1p : Option PA) (a1l : Nat) (a1c : Nat) {h : H} {R : Value → H → Prop} (hw : wp Try.prog (M_slices_Equal_impl_Found_impl_Found a0p a0l a0c a1p a1l a1c) (Ret R) h) : HC Try.prog fn_slices_Equal_impl_Found_impl_Found (List.map AV.val [.c (.sl a0p a0l a0c), .c (.sl a1p a1l a1c)]).toArray h R :=
  den_calls hmix Try.func44 (of_decide_eq_true rfl) (by rw [den_slices_Equal_impl_Found_impl_Found]; exact hw)
section
variable {P : Program} {Q : Ex → List AV → H → Prop} {h : H}
theorem w_fnd {p : PA} {xs : List (Option IV)} (hr : rds h p (LF.flat xs)) {i : Nat} {x : Option IV} (hx : xs[i]? = some x) {m : Int → Int → Bool → M}
    (hw : wp P (m (fT x).1 (fT x).2.1 (fT x).2.2.1) Q h) : wp P (.load (p.1, p.2 + mulN i 3) (.int .i64) fun k => .load (p.1, p.2 + mulN i 3 + 1) (.int .i64) fun v => .load (p.1, p.2 + mulN i 3 + 2) .bool fun b => m k v b) Q h := by
  have h0 := hr (i * 3 + 0) _ (LF.flat_get (j := 0) hx rfl)
  have h1 := hr (i * 3 + 1) _ (LF.flat_get (j := 1) hx rfl)
  have h2 := hr (i * 3 + 2) _ (LF.flat_get (j := 2) hx rfl)
  rw [mulN_eq]
  exact w_int _ (by simpa [Nat.add_assoc] using h0) (w_int _ (by simpa [Nat.add_assoc] using h1) (w_bool _ (by simpa [Nat.add_assoc] using h2) hw))
theorem c_EqualFound {c : Ck} {xs : List (Option IV)} {sp tp : Option PA} {n m cn cm : Nat} (hx : Rdr c (sp, n, cn) LF xs) (hy : Rdr c (tp, m, cm) LF xs) (hl : xs.length ≤ 4294967296) {G : PA → Prop} (hG : Star [c] h G) :
    HT Try.prog fn_slices_Equal_impl_Found_impl_Found [.c (.sl sp n cn), .c (.sl tp m cm)] false [.c .bool] h fun r h' => ∃ post, (r = (true, ()) ∧ post = [c]) ∧ St h G post h' := by
  apply hc_slices_Equal_impl_Found_impl_Found
  unfold M_slices_Equal_impl_Found_impl_Found
  have hn : n = xs.length := hx.1
  have hm : m = xs.length := hy.1
  have S := St.start hG
  have hnm : n = m := by omega
  subst hnm
  refine w_false (by simp) ?_
  refine w_bnd (w_lp (fun r y h' => ∃ i : Nat, y = ((i : Int), ()) ∧ i + r = n ∧ St h G [c] h') n rfl ⟨0, rfl, by omega, S⟩ ?_)
  rintro r _ _ ⟨i, rfl, hi, S⟩
  by_cases hlt : i < n
  · obtain ⟨p, hp, hro⟩ := hx.ptr (by omega)
    obtain ⟨q, hq, hro2⟩ := hy.ptr (by omega)
    dsimp only at hp hq
    subst hp; subst hq
    have hxi := List.getElem?_eq_getElem (show i < xs.length by omega)
    simp only [Int.toNat_natCast, toNat_succ, toNat_succ2, toNat_pred]
    refine w_true (lt_t (by (first | omega | ((try dsimp only [Sh.T, Sh1.T]); omega)))) ?_
    refine w_nonnil (w_guard ⟨by (first | omega | ((try dsimp only [Sh.T, Sh1.T]); omega)), by (first | omega | ((try dsimp only [Sh.T, Sh1.T]); omega))⟩ (w_fnd (S.rdr hro) hxi ?_))
    refine w_nonnil (w_guard ⟨by (first | omega | ((try dsimp only [Sh.T, Sh1.T]); omega)), by (first | omega | ((try dsimp only [Sh.T, Sh1.T]); omega))⟩ (w_fnd (S.rdr hro2) hxi ?_))
    refine w_false (by simp) ?_
    repeat (first | refine w_nonnil ?_ | refine ld_int S rfl ?_ | refine ld_some S rfl ?_ | refine ld_ptr S _ rfl ?_ | refine ld_sls S rfl ?_ | refine ld_nil S rfl ?_ | refine ld_bool S rfl ?_ | refine st_store S (lt_ble rfl) fun _ S => ?_ | refine st_alloc S fun _ _ S => ?_ | refine st_held S rfl ?_ | refine w_guard (by (first | exact inK64 (by omega) (by omega) | omega | (constructor <;> omega) | ((try dsimp only [Sh.T, Sh1.T]); first | exact inK64 (by omega) (by omega) | omega | exact ⟨by decide, inK64 (by omega) (by omega)⟩ | trivial))) ?_ | refine bd_n rfl ?_ | refine bd_e rfl ?_ | refine bd_r ?_ | refine bd_p ?_ | refine ln_r ?_ | refine ln_e ?_ | refine w_true (b := true) rfl ?_ | refine w_false (b := false) rfl ?_ | refine w_item (S.rdr hrd) (by assumption) ?_ | refine h_item (S.rdr hrd) (by assumption) ?_ | refine w_num (S.rdr hro) (by assumption) ?_ | refine ld_sln S rfl ?_ | refine ld_sl S _ _ _ rfl ?_)
    exact ln_n rfl (r - 1) ⟨i + 1, rfl, by omega, S⟩ (by omega)
  · exact w_false (lt_f (by (first | omega | ((try dsimp only [Sh.T, Sh1.T]); omega)))) (ln_e (bd_e rfl (rt_1 rfl ⟨_, ⟨rfl, rfl⟩, S⟩)))
end
end Go.Proofs.Ytlhbdmjeomffhaa
