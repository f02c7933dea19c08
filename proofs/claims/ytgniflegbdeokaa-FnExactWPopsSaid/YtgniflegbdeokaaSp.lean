/-
  The reference: ranks, places, setting, cutting. Conditions: none.
-/
import Derived.Test.YtgniflegbdeokaaIt
import Derived.Test.YtgniflegbdeokaaNm
set_option linter.unusedVariables false
set_option linter.unusedSimpArgs false
set_option linter.unusedSectionVars false
set_option maxRecDepth 100000
namespace Go.Proofs.Ytgniflegbdeokaa
open Go
def M_spec_Fits (a0 : Int) : M :=
  .bind none (.ite (a0 == 0)
    (.done .normal [.c (.tt)])
    (.ite (decide (a0 ≥ 2))
      (.done .normal [.c (.bool (decide (a0 ≤ 128)))])
      (.done .normal [.c (.ff)]))) [.c (.bool)] fun x0 =>
  .done .ret [.c (.bool (x0.fst))]
theorem den_spec_Fits (a0 : Int) : denFn Try.prog Try.f21 [.c (.int .i64 a0)] = M_spec_Fits a0 := by kernel_rfl
theorem hc_spec_Fits (a0 : Int) {h : H} {R : Value → H → Prop} (hw : wp Try.prog (M_spec_Fits a0) (Ret R) h) : HC Try.prog fn_spec_Fits (List.map AV.val [.c (.int .i64 a0)]).toArray h R :=
  den_calls hmix Try.func21 (of_decide_eq_true rfl) (by rw [den_spec_Fits]; exact hw)
section
variable {h : H}
theorem pos_eq {I : Type} {lt : I → I → Bool} {x : I} : ∀ {xs : List I} {i : Nat}, (∀ j a, j < i → xs[j]? = some a → lt a x = true) → i ≤ xs.length → (∀ a, xs[i]? = some a → lt a x = false) → pos lt xs x = i
  | [], i, _, h2, _ => by simp at h2; subst h2; rfl
  | a :: xs, 0, _, _, h3 => by simp [pos, h3 a rfl]
  | a :: xs, i + 1, h1, h2, h3 => by
    have ih := pos_eq (lt := lt) (x := x) (xs := xs) (i := i) (fun j b hj hb => h1 (j + 1) b (by omega) (by simpa using hb)) (by simpa using h2) (fun b hb => h3 b (by simpa using hb))
    have h0 := h1 0 a (by omega) rfl
    unfold pos at ih ⊢
    simp [h0, ih]
theorem put_len_le {I : Type} {lt : I → I → Bool} (l : List I) (x : I) : (put lt l x).length ≤ l.length + 1 := by
  have := pos_le (lt := lt) l x
  unfold put
  simp; omega
theorem take_snoc {I : Type} {l : List I} {i : Nat} (h : i < l.length) : l.take (i + 1) = l.take i ++ [l[i]] := List.take_succ_eq_append_getElem h
def OwnL {I : Type} (L : Lay I) (s : SlT) (xs : List I) : Prop := s.2.1 = xs.length ∧ s.2.1 ≤ s.2.2 ∧ (xs = [] ∨ s.1.isSome = true)
theorem OwnL.rdr {I : Type} {L : Lay I} {s : SlT} {xs : List I} (h : OwnL L s xs) : Rdr (SlC s L.sz (L.flat xs)) s L xs := Rdr.sl h.1 h.2.1 h.2.2
theorem sl_nil {h h0 : H} {G0 : PA → Prop} {l : List Ck} {I : Type} (L : Lay I) (S : St h0 G0 l h) : St h0 G0 (SlC (none, 0, 0) L.sz (L.flat ([] : List I)) :: l) h :=
  S.turn (l := []) (l' := [_]) fun F hF => star_one (c := SlC (none, 0, 0) L.sz (L.flat ([] : List I))) ⟨Sl.nil _ _, fun x => ⟨fun hx => (hF x hx).elim, fun hx => hx.elim⟩⟩
theorem c_Fits {d : Int} : HT Try.prog fn_spec_Fits [.c (.int .i64 d)] false [.c .bool] h fun x h' => x = (decide (d = 0 ∨ 2 ≤ d ∧ d ≤ 128), ()) ∧ h' = h := by
  apply hc_spec_Fits
  unfold M_spec_Fits
  by_cases h0 : d = 0
  · refine w_bnd (w_true (beq_t h0) (bd_n rfl (rt_1 rfl ⟨?_, rfl⟩)))
    rw [decide_eq_true (.inl h0)]
  · refine w_bnd (w_false (beq_f h0) ?_)
    by_cases h2 : 2 ≤ d
    · refine w_true (decide_eq_true h2) (bd_n rfl (rt_1 rfl ⟨?_, rfl⟩))
      congr 1
      exact decide_eq_decide.2 ⟨fun h => .inr ⟨h2, h⟩, fun h => (h.resolve_left h0).2⟩
    · refine w_false (decide_eq_false h2) (bd_n rfl (rt_1 rfl ⟨?_, rfl⟩))
      rw [decide_eq_false (fun h => h2 (h.resolve_left h0).1)]
end
end Go.Proofs.Ytgniflegbdeokaa
