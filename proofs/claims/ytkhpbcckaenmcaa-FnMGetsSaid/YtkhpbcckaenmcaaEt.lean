/-
  The thin package: the items of a map. Lists of truth values. Conditions: none.
-/
import Derived.Test.YtkhpbcckaenmcaaIm
import Derived.Test.YtkhpbcckaenmcaaTs
import Derived.Test.YtkhpbcckaenmcaaNami
import Derived.Test.YtkhpbcckaenmcaaPomi
set_option linter.unusedVariables false
set_option linter.unusedSimpArgs false
set_option linter.unusedSectionVars false
set_option maxRecDepth 100000
namespace Go.Proofs.Ytkhpbcckaenmcaa
open Go

def M_impl_entries (a0 : PA) : M :=
  .alloc ty_sl_impl_Item [.sl none (0) (0)] fun n0 =>
  .call fn_impl_pairs [.c (.addr (n0, 0)), .c (.int .i64 (0))] false [.c (.raw)] fun r1 =>
  .call fn_mi_Scan [.c (.addr a0), .c (.raw (r1.fst))] true [] fun r2 =>
  .load (n0, 0) (.sl) fun s3 =>
  .done .ret [.c (.sl (s3.fst) (s3.snd.fst) (s3.snd.snd))]

theorem den_impl_entries (a0 : PA) : denFn Try.prog Try.f65 [.c (.addr a0)] = M_impl_entries a0 := by kernel_rfl
theorem hc_impl_entries (a0 : PA) {h : H} {R : Value → H → Prop} (hw : wp Try.prog (M_impl_entries a0) (Ret R) h) : HC Try.prog fn_impl_entries (List.map AV.val [.c (.addr a0)]).toArray h R :=
  den_calls hmix Try.func65 (of_decide_eq_true rfl) (by rw [den_impl_entries]; exact hw)


/-- A truth value in a cell. -/
def LB : Lay Bool where
  sz := 1
  cells b := [.bool b]
  len _ := rfl
  one _ _ hv := by simp at hv; subst hv; rfl
  pos := by decide

section
variable {P : Program} {Q : Ex → List AV → H → Prop} {h : H}
theorem w_bl {p : PA} {xs : List Bool} (hr : rds h p (LB.flat xs)) {i : Nat} {x : Bool} (hx : xs[i]? = some x) {m : Bool → M} (hw : wp P (m x) Q h) : wp P (.load (p.1, p.2 + i) .bool m) Q h := by
  refine w_bool x ?_ hw
  have := hr (i * 1 + 0) _ (LB.flat_get (j := 0) hx rfl)
  simpa using this
theorem firstO_all {I : Type} (xs : List I) : firstO xs 0 = xs := by unfold firstO; rw [if_pos (.inl (by decide))]
theorem c_entries {m : Nat} {dg : Nat} {l : List IV} (hl : l.length ≤ 2147483647) {G : PA → Prop} (hG : Star [MI.MpC 0 dg (m, 0) l] h G) :
    HT Try.prog fn_impl_entries [.c (.addr (m, 0))] false [.c .sl] h fun r h' => ∃ post, (∃ s : SlT, r = (s, ()) ∧ OwnL LT s l ∧ post = [SlC s LT.sz (LT.flat l)]) ∧ St h G post h' := by
  apply hc_impl_entries
  unfold M_impl_entries
  refine st_alloc (St.start hG) fun n0 _ S => ?_
  refine st_callT S [.ow (n0, 0)] (fun G hG => c_pairs hG) ?_
  rintro _ _ _ ⟨fp, f0, f1, rfl, rfl⟩ S
  dsimp only [List.cons_append, List.nil_append] at S
  refine st_callV S [.ck (PrC (n0, 0) fp f0 f1 0 []), .mp (m, 0)] (args' := [.c (.addr (m, 0)), .c (.raw (prF fp))]) rfl (fun G hG => MI.c_Scan (cb_pairs (n := 0)) (by simp; omega) hG) ?_
  rintro _ _ _ rfl S
  dsimp only [List.cons_append, List.nil_append] at S
  rw [run_first, firstO_all] at S
  obtain ⟨s, hs, S⟩ := open_pr S
  refine ld_sl S s.1 s.2.1 s.2.2 rfl ?_
  exact rt_1 rfl ⟨_, ⟨s, rfl, hs, rfl⟩, S.only [.sl s]⟩
theorem opR_f (f : Option IV) : (if (MI.opR f).2.2.1 then some ((MI.opR f).1, (MI.opR f).2.1) else none) = f := by
  cases f <;> rfl
end
end Go.Proofs.Ytkhpbcckaenmcaa
