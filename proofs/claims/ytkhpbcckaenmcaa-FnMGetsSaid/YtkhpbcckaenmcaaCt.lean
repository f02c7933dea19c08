/-
  Items among which one is sought that a function answers true for. Conditions: none.
-/
import Derived.Test.YtkhpbcckaenmcaaTk
import Derived.Test.YtkhpbcckaenmcaaCb
set_option linter.unusedVariables false
set_option linter.unusedSimpArgs false
set_option linter.unusedSectionVars false
set_option maxRecDepth 100000
namespace Go.Proofs.Ytkhpbcckaenmcaa
open Go

def M_slices_IndexFunc_impl_Item_impl_Item (a0p : Option PA) (a0l : Nat) (a0c : Nat) (a1 : Value) : M :=
  .bind (some 0) (.loop [.c (.int .i64)] [.c (.int .i64 (0))] fun y0 =>
      .ite (decide (y0.fst < (↑a0l : Int)))
      (.nonnil (a0p) fun p1 =>
        .guard (((0 : Int) ≤ y0.fst) ∧ ((y0.fst : Int) < (↑a0l : Int))) <|
        .load (p1.fst, p1.snd + mulN (Int.toNat y0.fst) 2) (.int .i64) fun i2 =>
        .load (p1.fst, p1.snd + mulN (Int.toNat y0.fst) 2 + 1) (.int .i64) fun i3 =>
        .callv (a1) [.agg [.int .i64 (i2), .int .i64 (i3)]] false [.c (.bool)] fun r4 =>
        .ite (r4.fst)
        (.done .ret [.c (.int .i64 (y0.fst))])
        (.guard (InK IntKind.i64 (y0.fst + 1)) <|
          .done .normal [.c (.int .i64 (y0.fst + 1))]))
      (.done (.exit 0) [])) [] fun x5 =>
  .done .ret [.c (.int .i64 (-1))]

theorem den_slices_IndexFunc_impl_Item_impl_Item (a0p : Option PA) (a0l : Nat) (a0c : Nat) (a1 : Value) : denFn Try.prog Try.f66 [.c (.sl a0p a0l a0c), .c (.raw a1)] = M_slices_IndexFunc_impl_Item_impl_Item a0p a0l a0c a1 := by kernel_rfl
theorem hc_slices_IndexFunc_impl_Item_impl_Item (a0p : Option PA) (a0l : Nat) (a0c : Nat) (a1 : Value) {h : H} {R : Value → H → Prop} (hw : wp Try.prog (M_slices_IndexFunc_impl_Item_impl_Item a0p a0l a0c a1) (Ret R) h) : HC Try.prog fn_slices_IndexFunc_impl_Item_impl_Item (List.map AV.val [.c (.sl a0p a0l a0c), .c (.raw a1)]).toArray h R :=
  den_calls hmix Try.func66 (of_decide_eq_true rfl) (by rw [den_slices_IndexFunc_impl_Item_impl_Item]; exact hw)

def M_slices_ContainsFunc_impl_Item_impl_Item (a0p : Option PA) (a0l : Nat) (a0c : Nat) (a1 : Value) : M :=
  .call fn_slices_IndexFunc_impl_Item_impl_Item [.c (.sl (a0p) (a0l) (a0c)), .c (.raw (a1))] false [.c (.int .i64)] fun r0 =>
  .done .ret [.c (.bool (decide (r0.fst ≥ 0)))]

theorem den_slices_ContainsFunc_impl_Item_impl_Item (a0p : Option PA) (a0l : Nat) (a0c : Nat) (a1 : Value) : denFn Try.prog Try.f33 [.c (.sl a0p a0l a0c), .c (.raw a1)] = M_slices_ContainsFunc_impl_Item_impl_Item a0p a0l a0c a1 := by kernel_rfl
theorem hc_slices_ContainsFunc_impl_Item_impl_Item (a0p : Option PA) (a0l : Nat) (a0c : Nat) (a1 : Value) {h : H} {R : Value → H → Prop} (hw : wp Try.prog (M_slices_ContainsFunc_impl_Item_impl_Item a0p a0l a0c a1) (Ret R) h) : HC Try.prog fn_slices_ContainsFunc_impl_Item_impl_Item (List.map AV.val [.c (.sl a0p a0l a0c), .c (.raw a1)]).toArray h R :=
  den_calls hmix Try.func33 (of_decide_eq_true rfl) (by rw [den_slices_ContainsFunc_impl_Item_impl_Item]; exact hw)


/-- An item as it is handed to a function. -/
def argT (x : IV) : List AV := [.agg [.int .i64 x.1, .int .i64 x.2]]
section
variable {h : H}
theorem c_IndexFunc {c K : Ck} {f : Value} {p : IV → Bool} (hcb : Cbk Try.prog f argT (fun _ => K) (fun _ x => p x) 1) {xs : List IV} {sp : Option PA} {n cap : Nat} (hx : Rdr c (sp, n, cap) LT xs) (hl : xs.length ≤ 4294967296) {G : PA → Prop} (hG : Star [c, K] h G) :
    HT Try.prog fn_slices_IndexFunc_impl_Item_impl_Item [.c (.sl sp n cap), .c (.raw f)] false [.c (.int .i64)] h fun r h' => ∃ post, ((∃ i : Int, r = (i, ()) ∧ decide (i ≥ 0) = xs.any p) ∧ post = [c, K]) ∧ St h G post h' := by
  apply hc_slices_IndexFunc_impl_Item_impl_Item
  unfold M_slices_IndexFunc_impl_Item_impl_Item
  have hn : n = xs.length := hx.1
  have S := St.start hG
  refine w_bnd (w_lp (fun r y h' => ∃ i : Nat, y = ((i : Int), ()) ∧ i + r = n ∧ (xs.take i).any p = false ∧ St h G [c, K] h') n rfl ⟨0, rfl, by omega, by simp, S⟩ ?_)
  clear S
  rintro r _ _ ⟨i, rfl, hi, he, S⟩
  by_cases hlt : i < n
  · obtain ⟨q, hq, hro⟩ := hx.ptr (by omega)
    dsimp only at hq
    subst hq
    have hxi := List.getElem?_eq_getElem (show i < xs.length by omega)
    simp only [Int.toNat_natCast, toNat_succ, toNat_succ2, toNat_pred]
    refine w_true (lt_t (by (first | omega | ((try dsimp only [Sh.T, Sh1.T]); omega)))) ?_
    refine w_nonnil (w_guard ⟨by (first | omega | ((try dsimp only [Sh.T, Sh1.T]); omega)), by (first | omega | ((try dsimp only [Sh.T, Sh1.T]); omega))⟩ (w_item (S.rdr hro) hxi ?_))
    refine st_cb (acc := []) S.pull1 hcb xs[i] (by decide) rfl fun _ S => ?_
    have S := S.pull1
    by_cases hp : p xs[i] = true
    · refine w_true hp (ln_r (bd_r (rt_1 rfl ⟨_, ⟨⟨_, rfl, ?_⟩, rfl⟩, S⟩)))
      rw [List.any_eq_true.2 ⟨xs[i], List.getElem_mem _, hp⟩]
      exact decide_eq_true (by (first | omega | ((try dsimp only [Sh.T, Sh1.T]); omega)))
    · refine w_false (by simpa using hp) ?_
      refine w_guard (inK64 (by (first | omega | ((try dsimp only [Sh.T, Sh1.T]); omega))) (by (first | omega | ((try dsimp only [Sh.T, Sh1.T]); omega)))) ?_
      exact ln_n rfl (r - 1) ⟨i + 1, rfl, by omega, by rw [take_snoc (by omega), List.any_append, he]; simpa using hp, S⟩ (by omega)
  · rw [List.take_of_length_le (by omega)] at he
    exact w_false (lt_f (by (first | omega | ((try dsimp only [Sh.T, Sh1.T]); omega)))) (ln_e (bd_e rfl (rt_1 rfl ⟨_, ⟨⟨_, rfl, by rw [he]; rfl⟩, rfl⟩, S⟩)))
theorem c_ContainsFunc {c K : Ck} {f : Value} {p : IV → Bool} (hcb : Cbk Try.prog f argT (fun _ => K) (fun _ x => p x) 1) {xs : List IV} {sp : Option PA} {n cap : Nat} (hx : Rdr c (sp, n, cap) LT xs) (hl : xs.length ≤ 4294967296) {G : PA → Prop} (hG : Star [c, K] h G) :
    HT Try.prog fn_slices_ContainsFunc_impl_Item_impl_Item [.c (.sl sp n cap), .c (.raw f)] false [.c .bool] h fun r h' => ∃ post, (r = (xs.any p, ()) ∧ post = [c, K]) ∧ St h G post h' := by
  apply hc_slices_ContainsFunc_impl_Item_impl_Item
  unfold M_slices_ContainsFunc_impl_Item_impl_Item
  refine st_callT (St.start hG) [.ck c, .ck K] (fun G hG => c_IndexFunc hcb hx hl hG) ?_
  rintro _ _ _ ⟨⟨i, rfl, hi⟩, rfl⟩ S
  dsimp only [List.cons_append, List.nil_append] at S
  exact rt_1 rfl ⟨_, ⟨by rw [← hi], rfl⟩, S⟩
end
end Go.Proofs.Ytkhpbcckaenmcaa
