/-
  The reference: ranks, places, setting, cutting. Conditions: none.
-/
import Derived.Test.YtegnpimlfphncaaIt
import Derived.Test.YtegnpimlfphncaaNm
set_option linter.unusedVariables false
set_option linter.unusedSimpArgs false
set_option linter.unusedSectionVars false
set_option maxRecDepth 100000
namespace Go.Proofs.Ytegnpimlfphncaa
open Go
def M_spec_Fits (a0 : Int) : M :=
 .bind none (.ite (a0 == 0)
 (.done .normal [.c (.tt)])
 (.ite (decide (a0 ≥ 2))
 (.done .normal [.c (.bool (decide (a0 ≤ 128)))])
 (.done .normal [.c (.ff)]))) [.c (.bool)] fun x0 =>
 .done .ret [.c (.bool (x0.fst))]
theorem den_spec_Fits (a0 : Int) : denFn Try.prog Try.f9 [.c (.int .i64 a0)] = M_spec_Fits a0 := by kernel_rfl
theorem hc_spec_Fits (a0 : Int) {h : H} {R : Value → H → Prop} (hw : wp Try.prog (M_spec_Fits a0) (Ret R) h) : HC Try.prog fn_spec_Fits (List.map AV.val [.c (.int .i64 a0)]).toArray h R :=
  den_calls hmix Try.func9 (of_decide_eq_true rfl) (by rw [den_spec_Fits]; exact hw)
section
variable {h : H}
theorem rem_in {k n : Int} (hn : 0 < n) : 0 ≤ (k.tmod n + n).tmod n ∧ (k.tmod n + n).tmod n < n ∧ 0 < k.tmod n + n ∧ k.tmod n + n < 2 * n := by
  have h1 := Int.tmod_lt_of_pos k hn
  have h2 : -n < k.tmod n := by
    have := Int.lt_tmod_of_pos k hn
    omega
  have h3 : 0 < k.tmod n + n := by omega
  exact ⟨Int.tmod_nonneg _ (by omega), Int.tmod_lt_of_pos _ hn, h3, by omega⟩
def treeO (o : List Int) (l : List IV) : List IV := l.foldl (fun t x => put (ltO o) t x) []
theorem put_len_le {I : Type} {lt : I → I → Bool} (l : List I) (x : I) : (put lt l x).length ≤ l.length + 1 := by
  have := pos_le (lt := lt) l x
  unfold put
  simp; omega
theorem treeO_snoc (o : List Int) (l : List IV) (x : IV) : treeO o (l ++ [x]) = put (ltO o) (treeO o l) x := by simp [treeO]
theorem foldO_len (o : List Int) : ∀ (l t : List IV), (l.foldl (fun t x => put (ltO o) t x) t).length ≤ t.length + l.length
  | [], t => Nat.le_refl _
  | x :: l, t => by
    have ih := foldO_len o l (put (ltO o) t x)
    have := put_len_le (lt := ltO o) t x
    simp only [List.foldl_cons, List.length_cons]; omega
theorem treeO_len (o : List Int) (l : List IV) : (treeO o l).length ≤ l.length := by
  have := foldO_len o l []
  simpa [treeO] using this
theorem foldO_srt (o : List Int) : ∀ (l t : List IV), Srt (ltO o) t → Srt (ltO o) (l.foldl (fun t x => put (ltO o) t x) t)
  | [], t, h => h
  | x :: l, t, h => foldO_srt o l _ (put_srt (ordO o) h x)
theorem treeO_srt (o : List Int) (l : List IV) : Srt (ltO o) (treeO o l) := foldO_srt o l [] List.Pairwise.nil
theorem take_snoc {I : Type} {l : List I} {i : Nat} (h : i < l.length) : l.take (i + 1) = l.take i ++ [l[i]] := List.take_succ_eq_append_getElem h
def OwnL {I : Type} (L : Lay I) (s : SlT) (xs : List I) : Prop := s.2.1 = xs.length ∧ s.2.1 ≤ s.2.2 ∧ (xs = [] ∨ s.1.isSome = true)
theorem OwnL.rdr {I : Type} {L : Lay I} {s : SlT} {xs : List I} (h : OwnL L s xs) : Rdr (SlC s L.sz (L.flat xs)) s L xs := Rdr.sl h.1 h.2.1 h.2.2
theorem sl_nil {h h0 : H} {G0 : PA → Prop} {l : List Ck} {I : Type} (L : Lay I) (S : St h0 G0 l h) : St h0 G0 (SlC (none, 0, 0) L.sz (L.flat ([] : List I)) :: l) h :=
  S.turn (l := []) (l' := [_]) fun F hF => star_one (c := SlC (none, 0, 0) L.sz (L.flat ([] : List I))) ⟨Sl.nil _ _, fun x => ⟨fun hx => (hF x hx).elim, fun hx => hx.elim⟩⟩
theorem c_Fits {d : Int} : HT Try.prog fn_spec_Fits [.c (.int .i64 d)] false [.c .bool] h fun x h' => x = (decide (d = 0 ∨ 2 ≤ d ∧ d ≤ 128), ()) ∧ h' = h := by
  apply hc_spec_Fits
  unfold M_spec_Fits
  by_cases h0 : d = 0
  · refine w_bnd (w_true (beq_t h0) (bd_n rfl (rt_1 rfl ⟨?_, rfl⟩)))
    rw [decide_eq_true (.inl h0)]
  · refine w_bnd (w_false (beq_f h0) ?_)
    by_cases h2 : 2 ≤ d
    · refine w_true (decide_eq_true h2) (bd_n rfl (rt_1 rfl ⟨?_, rfl⟩))
      congr 1
      exact decide_eq_decide.2 ⟨fun h => .inr ⟨h2, h⟩, fun h => (h.resolve_left h0).2⟩
    · refine w_false (decide_eq_false h2) (bd_n rfl (rt_1 rfl ⟨?_, rfl⟩))
      rw [decide_eq_false (fun h => h2 (h.resolve_left h0).1)]
end
end Go.Proofs.Ytegnpimlfphncaa
