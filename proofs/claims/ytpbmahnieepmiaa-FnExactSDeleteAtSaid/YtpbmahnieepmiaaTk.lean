/-
  The function that keeps the items that are handed to it; the reference's 'First'; lists of items compared. Conditions: none.
-/
import Derived.Test.YtpbmahnieepmiaaVa
import Derived.Test.YtpbmahnieepmiaaCb
set_option linter.unusedVariables false
set_option linter.unusedSimpArgs false
set_option linter.unusedSectionVars false
set_option maxRecDepth 100000
namespace Go.Proofs.Ytpbmahnieepmiaa
open Go
def M_spec_First (a0p : Option PA) (a0l : Nat) (a0c : Nat) (a1 : Int) : M :=
  .bind none (.ite (decide (a1 < 1))
    (.done .normal [.c (.tt)])
    (.done .normal [.c (.bool (decide (a1 > (↑a0l : Int))))])) [.c (.bool)] fun x0 =>
  .ite (x0.fst)
  (.done .ret [.c (.sl (a0p) (a0l) (a0c))])
  (.guard (((0 : Int) ≤ a1) ∧ ((a1 : Int) ≤ (↑a0c : Int))) <|
    .done .ret [.c (.sl (slBase a0p a0c 0 2) (a1.toNat - 0) (a0c - 0))])
theorem den_spec_First (a0p : Option PA) (a0l : Nat) (a0c : Nat) (a1 : Int) : denFn Try.prog Try.f52 [.c (.sl a0p a0l a0c), .c (.int .i64 a1)] = M_spec_First a0p a0l a0c a1 := by kernel_rfl
theorem hc_spec_First (a0p : Option PA) (a0l : Nat) (a0c : Nat) (a1 : Int) {h : H} {R : Value → H → Prop} (hw : wp Try.prog (M_spec_First a0p a0l a0c a1) (Ret R) h) : HC Try.prog fn_spec_First (List.map AV.val [.c (.sl a0p a0l a0c), .c (.int .i64 a1)]).toArray h R :=
  den_calls hmix Try.func52 (of_decide_eq_true rfl) (by rw [den_spec_First]; exact hw)
section
variable {P : Program} {Q : Ex → List AV → H → Prop} {h h0 : H} {G0 : PA → Prop} {l : List Ck}
theorem Rdr.part {I : Type} {c : Ck} {sp : Option PA} {n cap : Nat} {L : Lay I} {xs : List I} (r : Rdr c (sp, n, cap) L xs) (b k : Nat) (hb : b + k ≤ n) : Rdr c (slBase sp cap b L.sz, k, cap - b) L ((xs.drop b).take k) := by
  have hn : n = xs.length := r.1
  have hcap : n ≤ cap := r.2.1
  refine ⟨by rw [List.length_take, List.length_drop]; show k = _; omega, by show k ≤ cap - b; omega, ?_⟩
  by_cases hk : k = 0
  · left; subst hk; rfl
  · right
    obtain ⟨p, hp, hrd⟩ := r.ptr (by omega)
    dsimp only at hp
    subst hp
    refine ⟨(p.1, p.2 + b * L.sz), slBase_in (by omega), fun h F hc => ?_⟩
    have := rds_part (hrd h F hc) b k cap (cap - b) (by omega) (by omega)
    rcases this.2 with h0 | ⟨q, hq, ho⟩
    · intro i v hv
      rw [h0] at hv; simp at hv
    · rw [slBase_in (by omega)] at hq
      obtain rfl := Option.some.inj hq
      exact ho
theorem c_First {c : Ck} {xs : List IV} {sp : Option PA} {n cap : Nat} (hx : Rdr c (sp, n, cap) LT xs) {k : Int} :
    HT Try.prog fn_spec_First [.c (.sl sp n cap), .c (.int .i64 k)] false [.c .sl] h fun r h' => (∃ s : SlT, r = (s, ()) ∧ Rdr c s LT (firstO xs k)) ∧ h' = h := by
  apply hc_spec_First
  unfold M_spec_First
  have hn : n = xs.length := hx.1
  have hcap : n ≤ cap := hx.2.1
  by_cases h1 : k < 1 ∨ k > xs.length
  · have e : firstO xs k = xs := if_pos h1
    rw [e]
    have hb : decide (k < 1) = true ∨ decide (k < 1) = false ∧ decide (k > (n : Int)) = true := by
      by_cases h2 : k < 1
      · exact .inl (decide_eq_true h2)
      · exact .inr ⟨decide_eq_false h2, decide_eq_true (by omega)⟩
    rcases hb with hb | ⟨hb, hb2⟩
    · exact w_bnd (w_true hb (bd_n rfl (w_true rfl (rt_1 rfl ⟨⟨_, rfl, hx⟩, rfl⟩))))
    · exact w_bnd (w_false hb (bd_n (x := (true, ())) (by rw [hb2]; rfl) (w_true rfl (rt_1 rfl ⟨⟨_, rfl, hx⟩, rfl⟩))))
  · have e : firstO xs k = xs.take k.toNat := if_neg h1
    rw [e]
    refine w_bnd (w_false (decide_eq_false (by omega)) (bd_n (x := (false, ())) (by rw [decide_eq_false (show ¬ k > (n : Int) by omega)]; rfl) (w_false rfl (w_guard ⟨by omega, by omega⟩ (rt_1 rfl ⟨⟨_, rfl, ?_⟩, rfl⟩)))))
    have := hx.part 0 k.toNat (by omega)
    rw [List.drop_zero] at this
    exact this
end
end Go.Proofs.Ytpbmahnieepmiaa
