/-
  The thin package: all keys of a map; degrees that fit; a map that is used after all. Conditions: none.
-/
import Derived.Test.YtkhpbcckaenmcaaIm
import Derived.Test.YtkhpbcckaenmcaaVkmi
import Derived.Test.YtkhpbcckaenmcaaTk
set_option linter.unusedVariables false
set_option linter.unusedSimpArgs false
set_option linter.unusedSectionVars false
set_option maxRecDepth 100000
namespace Go.Proofs.Ytkhpbcckaenmcaa
open Go

def M_impl_MKeys (a0 : Int) (a1p : Option PA) (a1l : Nat) (a1c : Nat) : M :=
  .call fn_impl_growMap [.c (.int .i64 (a0)), .c (.sl (a1p) (a1l) (a1c))] false [.c (.ptr)] fun r0 =>
  .call fn_mi_Keys [.c (.ptr (r0.fst))] false [.c (.sl)] fun r1 =>
  .done .ret [.c (.sl (r1.fst.fst) (r1.fst.snd.fst) (r1.fst.snd.snd))]

theorem den_impl_MKeys (a0 : Int) (a1p : Option PA) (a1l : Nat) (a1c : Nat) : denFn Try.prog Try.f22 [.c (.int .i64 a0), .c (.sl a1p a1l a1c)] = M_impl_MKeys a0 a1p a1l a1c := by kernel_rfl
theorem hc_impl_MKeys (a0 : Int) (a1p : Option PA) (a1l : Nat) (a1c : Nat) {h : H} {R : Value → H → Prop} (hw : wp Try.prog (M_impl_MKeys a0 a1p a1l a1c) (Ret R) h) : HC Try.prog fn_impl_MKeys (List.map AV.val [.c (.int .i64 a0), .c (.sl a1p a1l a1c)]).toArray h R :=
  den_calls hmix Try.func22 (of_decide_eq_true rfl) (by rw [den_impl_MKeys]; exact hw)

def M_laws_fit (a0 : Int) : M :=
  .bind none (.ite (decide (a0 > 0))
    (.call fn_spec_Fits [.c (.int .i64 (a0))] false [.c (.bool)] fun r0 =>
      .done .normal [.c (.bool (r0.fst))])
    (.done .normal [.c (.ff)])) [.c (.bool)] fun x1 =>
  .done .ret [.c (.bool (x1.fst))]

theorem den_laws_fit (a0 : Int) : denFn Try.prog Try.f20 [.c (.int .i64 a0)] = M_laws_fit a0 := by kernel_rfl
theorem hc_laws_fit (a0 : Int) {h : H} {R : Value → H → Prop} (hw : wp Try.prog (M_laws_fit a0) (Ret R) h) : HC Try.prog fn_laws_fit (List.map AV.val [.c (.int .i64 a0)]).toArray h R :=
  den_calls hmix Try.func20 (of_decide_eq_true rfl) (by rw [den_laws_fit]; exact hw)

def M_laws_aliveM  : M :=
  .call fn_laws_exItems [] false [.c (.sl)] fun r0 =>
  .guard (((0 : Int) ≤ 3) ∧ ((3 : Int) ≤ (↑r0.fst.snd.snd : Int))) <|
  .call fn_impl_MKeys [.c (.int .i64 (2)), .c (.sl (slBase r0.fst.fst r0.fst.snd.snd 0 2) (3) (r0.fst.snd.snd - 0))] false [.c (.sl)] fun r1 =>
  .done .ret [.c (.bool ((↑r1.fst.snd.fst : Int) == 3))]

theorem den_laws_aliveM  : denFn Try.prog Try.f21 [] = M_laws_aliveM  := by kernel_rfl
theorem hc_laws_aliveM  {h : H} {R : Value → H → Prop} (hw : wp Try.prog (M_laws_aliveM ) (Ret R) h) : HC Try.prog fn_laws_aliveM (List.map AV.val []).toArray h R :=
  den_calls hmix Try.func21 (of_decide_eq_true rfl) (by rw [den_laws_aliveM]; exact hw)


section
variable {h : H}
theorem c_MKeys {c : Ck} {d : Int} (hd : d ≤ 536870912) {xs : List IV} {sp : Option PA} {n cap : Nat} (hx : Rdr c (sp, n, cap) LT xs) (hxl : xs.length ≤ 2147483647) {G : PA → Prop} (hG : Star [c] h G) :
    HT Try.prog fn_impl_MKeys [.c (.int .i64 d), .c (.sl sp n cap)] false [.c .sl] h fun r h' => ∃ post, (∃ s : SlT, r = (s, ()) ∧ OwnL LN s (MI.kO (treeO [] xs)) ∧ post = [c, SlC s LN.sz (LN.flat (MI.kO (treeO [] xs)))]) ∧ St h G post h' := by
  apply hc_impl_MKeys
  unfold M_impl_MKeys
  have htl := treeO_len [] xs
  have S := St.start hG
  refine st_callT S [.ck c] (fun G hG => c_growMap hd hx hxl hG) ?_
  rintro _ _ _ ⟨m, rfl, rfl⟩ S
  dsimp only [List.cons_append, List.nil_append] at S
  refine st_callV S [.mp (m, 0)] (args' := [.c (.addr (m, 0))]) rfl (fun G hG => MI.c_Keys (by omega) hG) ?_
  rintro _ _ _ ⟨s, rfl, hs, rfl⟩ S
  dsimp only [List.cons_append, List.nil_append] at S
  exact rt_1 rfl ⟨_, ⟨s, rfl, hs, rfl⟩, S.only [.ck c, .sl s]⟩
theorem c_fit {d : Int} : HT Try.prog fn_laws_fit [.c (.int .i64 d)] false [.c .bool] h fun x h' => x = (decide (2 ≤ d ∧ d ≤ 128), ()) ∧ h' = h := by
  apply hc_laws_fit
  unfold M_laws_fit
  by_cases h0 : d > 0
  · refine w_bnd (w_true (decide_eq_true h0) (w_callT c_Fits ?_))
    rintro _ _ ⟨rfl, rfl⟩
    refine bd_n rfl (rt_1 rfl ⟨?_, rfl⟩)
    congr 1
    exact decide_eq_decide.2 ⟨fun h => by omega, fun h => .inr h⟩
  · refine w_bnd (w_false (decide_eq_false h0) (bd_n rfl (rt_1 rfl ⟨?_, rfl⟩)))
    rw [decide_eq_false (by omega)]
theorem c_aliveM {G : PA → Prop} (hG : Star [] h G) : HT Try.prog fn_laws_aliveM [] false [.c .bool] h fun r h' => ∃ post, (r = (true, ()) ∧ post = []) ∧ St h G post h' := by
  apply hc_laws_aliveM
  unfold M_laws_aliveM
  have S := St.start hG
  refine st_callT S [] (fun G hG => c_exItems hG) ?_
  rintro _ _ _ ⟨ne, rfl, rfl⟩ S
  dsimp only [List.cons_append, List.nil_append] at S
  refine w_guard ⟨by decide, by show (3 : Int) ≤ ((7 : Nat) : Int); decide⟩ ?_
  have hp := (Rdr.ow (L := LT) (xs := exI) (p := (ne, 0)) (n := 7) (k := 0) rfl).part 0 3 (by decide)
  refine st_callT S [.ow (ne, 0)] (fun G hG => c_MKeys (d := 2) (by omega) hp (by decide) hG) ?_
  rintro _ _ _ ⟨s, rfl, hs, rfl⟩ S
  dsimp only [List.cons_append, List.nil_append] at S
  have hl : s.2.1 = 3 := hs.1
  refine rt_1 rfl ⟨_, ⟨?_, rfl⟩, (S.dels [.ow (ne, 0), .sl s])⟩
  rw [hl]; rfl
end
end Go.Proofs.Ytkhpbcckaenmcaa
