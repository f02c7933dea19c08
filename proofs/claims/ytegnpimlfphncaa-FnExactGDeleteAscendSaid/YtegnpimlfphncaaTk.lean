/-
  The function that keeps the items that are handed to it; the reference's 'First'; lists of items compared. Conditions: none.
-/
import Derived.Test.YtegnpimlfphncaaVa
import Derived.Test.YtegnpimlfphncaaCb
set_option linter.unusedVariables false
set_option linter.unusedSimpArgs false
set_option linter.unusedSectionVars false
set_option maxRecDepth 100000
namespace Go.Proofs.Ytegnpimlfphncaa
open Go
def M_slices_Equal_impl_Item_impl_Item (a0p : Option PA) (a0l : Nat) (a0c : Nat) (a1p : Option PA) (a1l : Nat) (a1c : Nat) : M :=
  .ite ((↑a0l : Int) != (↑a1l : Int))
  (.done .ret [.c (.ff)])
  (.bind (some 0) (.loop [.c (.int .i64)] [.c (.int .i64 (0))] fun y0 =>
        .ite (decide (y0.fst < (↑a0l : Int)))
        (.nonnil (a0p) fun p1 =>
          .guard (((0 : Int) ≤ y0.fst) ∧ ((y0.fst : Int) < (↑a0l : Int))) <|
          .load (p1.fst, p1.snd + mulN (Int.toNat y0.fst) 2) (.int .i64) fun i2 =>
          .load (p1.fst, p1.snd + mulN (Int.toNat y0.fst) 2 + 1) (.int .i64) fun i3 =>
          .nonnil (a1p) fun p4 =>
          .guard (((0 : Int) ≤ y0.fst) ∧ ((y0.fst : Int) < (↑a1l : Int))) <|
          .load (p4.fst, p4.snd + mulN (Int.toNat y0.fst) 2) (.int .i64) fun i5 =>
          .load (p4.fst, p4.snd + mulN (Int.toNat y0.fst) 2 + 1) (.int .i64) fun i6 =>
          .ite (!(i2 == i5 && (i3 == i6 && true)))
          (.done .ret [.c (.ff)])
          (.guard (InK IntKind.i64 (y0.fst + 1)) <|
            .done .normal [.c (.int .i64 (y0.fst + 1))]))
        (.done (.exit 0) [])) [] fun x7 =>
    .done .ret [.c (.tt)])
theorem den_slices_Equal_impl_Item_impl_Item (a0p : Option PA) (a0l : Nat) (a0c : Nat) (a1p : Option PA) (a1l : Nat) (a1c : Nat) : denFn Try.prog Try.f13 [.c (.sl a0p a0l a0c), .c (.sl a1p a1l a1c)] = M_slices_Equal_impl_Item_impl_Item a0p a0l a0c a1p a1l a1c := by kernel_rfl
theorem hc_slices_Equal_impl_Item_impl_Item (a0p : Option PA) (a0l : Nat) (a0c : Nat) (a1p : Option PA) (a1l : Nat) (a1c : Nat) {h : H} {R : Value → H → Prop} (hw : wp Try.prog (M_slices_Equal_impl_Item_impl_Item a0p a0l a0c a1p a1l a1c) (Ret R) h) : HC Try.prog fn_slices_Equal_impl_Item_impl_Item (List.map AV.val [.c (.sl a0p a0l a0c), .c (.sl a1p a1l a1c)]).toArray h R :=
  den_calls hmix Try.func13 (of_decide_eq_true rfl) (by rw [den_slices_Equal_impl_Item_impl_Item]; exact hw)
section
variable {P : Program} {Q : Ex → List AV → H → Prop} {h h0 : H} {G0 : PA → Prop} {l : List Ck}
theorem Rdr.part {I : Type} {c : Ck} {sp : Option PA} {n cap : Nat} {L : Lay I} {xs : List I} (r : Rdr c (sp, n, cap) L xs) (b k : Nat) (hb : b + k ≤ n) : Rdr c (slBase sp cap b L.sz, k, cap - b) L ((xs.drop b).take k) := by
  have hn : n = xs.length := r.1
  have hcap : n ≤ cap := r.2.1
  refine ⟨by rw [List.length_take, List.length_drop]; show k = _; omega, by show k ≤ cap - b; omega, ?_⟩
  by_cases hk : k = 0
  · left; subst hk; rfl
  · right
    obtain ⟨p, hp, hrd⟩ := r.ptr (by omega)
    dsimp only at hp
    subst hp
    refine ⟨(p.1, p.2 + b * L.sz), slBase_in (by omega), fun h F hc => ?_⟩
    have := rds_part (hrd h F hc) b k cap (cap - b) (by omega) (by omega)
    rcases this.2 with h0 | ⟨q, hq, ho⟩
    · intro i v hv
      rw [h0] at hv; simp at hv
    · rw [slBase_in (by omega)] at hq
      obtain rfl := Option.some.inj hq
      exact ho
theorem c_EqualItems {c : Ck} {xs ys : List IV} {sp tp : Option PA} {n m cn cm : Nat} (hx : Rdr c (sp, n, cn) LT xs) (hy : Rdr c (tp, m, cm) LT ys) (hl : xs.length ≤ 4294967296) {G : PA → Prop} (hG : Star [c] h G) :
    HT Try.prog fn_slices_Equal_impl_Item_impl_Item [.c (.sl sp n cn), .c (.sl tp m cm)] false [.c .bool] h fun r h' => ∃ post, (r = (decide (xs = ys), ()) ∧ post = [c]) ∧ St h G post h' := by
  apply hc_slices_Equal_impl_Item_impl_Item
  unfold M_slices_Equal_impl_Item_impl_Item
  have hn : n = xs.length := hx.1
  have hm : m = ys.length := hy.1
  have S := St.start hG
  by_cases hnm : n = m
  · subst hnm
    refine w_false (by simp) ?_
    refine w_bnd (w_lp (fun r y h' => ∃ i : Nat, y = ((i : Int), ()) ∧ i + r = n ∧ xs.take i = ys.take i ∧ St h G [c] h') n rfl ⟨0, rfl, by omega, rfl, S⟩ ?_)
    rintro r _ _ ⟨i, rfl, hi, he, S⟩
    by_cases hlt : i < n
    · obtain ⟨p, hp, hro⟩ := hx.ptr (by omega)
      obtain ⟨q, hq, hro2⟩ := hy.ptr (by omega)
      dsimp only at hp hq
      subst hp; subst hq
      have hxi := List.getElem?_eq_getElem (show i < xs.length by omega)
      have hyi := List.getElem?_eq_getElem (show i < ys.length by omega)
      simp only [Int.toNat_natCast, toNat_succ, toNat_succ2, toNat_pred]
      refine w_true (lt_t (by (first | omega | ((try dsimp only [Sh.T, Sh1.T]); omega)))) ?_
      refine w_nonnil (w_guard ⟨by (first | omega | ((try dsimp only [Sh.T, Sh1.T]); omega)), by (first | omega | ((try dsimp only [Sh.T, Sh1.T]); omega))⟩ (w_item (S.rdr hro) hxi ?_))
      refine w_nonnil (w_guard ⟨by (first | omega | ((try dsimp only [Sh.T, Sh1.T]); omega)), by (first | omega | ((try dsimp only [Sh.T, Sh1.T]); omega))⟩ (w_item (S.rdr hro2) hyi ?_))
      by_cases hv : xs[i] = ys[i]
      · refine w_false (by simp [hv]) ?_
        repeat (first | refine w_nonnil ?_ | refine ld_int S rfl ?_ | refine ld_some S rfl ?_ | refine ld_ptr S _ rfl ?_ | refine ld_sls S rfl ?_ | refine ld_nil S rfl ?_ | refine ld_bool S rfl ?_ | refine st_store S (lt_ble rfl) fun _ S => ?_ | refine st_alloc S fun _ _ S => ?_ | refine st_held S rfl ?_ | refine w_guard (by (first | exact inK64 (by omega) (by omega) | omega | (constructor <;> omega) | ((try dsimp only [Sh.T, Sh1.T]); first | exact inK64 (by omega) (by omega) | omega | exact ⟨by decide, inK64 (by omega) (by omega)⟩ | trivial))) ?_ | refine bd_n rfl ?_ | refine bd_e rfl ?_ | refine bd_r ?_ | refine bd_p ?_ | refine ln_r ?_ | refine ln_e ?_ | refine w_true (b := true) rfl ?_ | refine w_false (b := false) rfl ?_ | refine w_guard (show noMeths _ _ by show _ = _; kernel_rfl) ?_ | refine w_item (S.rdr hrd) (by assumption) ?_ | refine h_item (S.rdr hrd) (by assumption) ?_ | refine w_num (S.rdr hro) (by assumption) ?_ | refine ld_sln S rfl ?_ | refine ld_sl S _ _ _ rfl ?_)
        exact ln_n rfl (r - 1) ⟨i + 1, rfl, by omega, by rw [take_snoc (by omega), take_snoc (by omega), he, hv], S⟩ (by omega)
      · have hne : (!(xs[i].1 == ys[i].1 && (xs[i].2 == ys[i].2 && true))) = true := by
          cases hq : (xs[i].1 == ys[i].1 && (xs[i].2 == ys[i].2 && true)) with
          | false => rfl
          | true =>
            simp only [Bool.and_true, Bool.and_eq_true, beq_iff_eq] at hq
            exact (hv (Prod.ext hq.1 hq.2)).elim
        refine w_true hne ?_
        refine ln_r (bd_r (rt_1 rfl ⟨_, ⟨?_, rfl⟩, S⟩))
        rw [decide_eq_false (fun e => hv (by subst e; rfl))]
    · refine w_false (lt_f (by (first | omega | ((try dsimp only [Sh.T, Sh1.T]); omega)))) (ln_e (bd_e rfl (rt_1 rfl ⟨_, ⟨?_, rfl⟩, S⟩)))
      rw [List.take_of_length_le (by omega), List.take_of_length_le (by omega)] at he
      rw [decide_eq_true he]
  · refine w_true (by simp; omega) (rt_1 rfl ⟨_, ⟨?_, rfl⟩, S⟩)
    rw [decide_eq_false (fun e => hnm (by subst e; omega))]
end
end Go.Proofs.Ytegnpimlfphncaa
