/-
  The law FnBNews. Conditions: none.
-/
import Derived.Test.YtlmiafbcgfegpaaZis
import Derived.Test.YtlmiafbcgfegpaaYsq
set_option linter.unusedVariables false
set_option linter.unusedSimpArgs false
set_option linter.unusedSectionVars false
set_option maxRecDepth 100000
namespace Go.Proofs.Ytlmiafbcgfegpaa
open Go
def M_laws_aliveB  : M :=
  .call fn_laws_exMake [] false [.agg [.sl, .int .i64, .bool]] fun r0 =>
  .call fn_laws_exItems [] false [.c (.sl)] fun r1 =>
  .guard (((0 : Int) ≤ 3) ∧ ((3 : Int) ≤ (↑r1.fst.snd.snd : Int))) <|
  .call fn_impl_BSet [.agg [.sl (r0.fst.fst.fst) (r0.fst.fst.snd.fst) (r0.fst.fst.snd.snd), .int .i64 (r0.fst.snd.fst), .bool (r0.fst.snd.snd.fst)], .c (.sl (slBase r1.fst.fst r1.fst.snd.snd 0 2) (3) (r1.fst.snd.snd - 0))] true [.c (.sl), .c (.sl)] fun r2 =>
  .done .ret [.c (.bool ((↑r2.snd.fst.snd.fst : Int) == 3))]
theorem den_laws_aliveB  : denFn Try.prog Try.f11 [] = M_laws_aliveB  := by kernel_rfl
theorem hc_laws_aliveB  {h : H} {R : Value → H → Prop} (hw : wp Try.prog (M_laws_aliveB ) (Ret R) h) : HC Try.prog fn_laws_aliveB (List.map AV.val []).toArray h R :=
  den_calls hmix Try.func11 (of_decide_eq_true rfl) (by rw [den_laws_aliveB]; exact hw)
section
variable {h : H}
theorem c_aliveB {G : PA → Prop} (hG : Star [] h G) : HT Try.prog fn_laws_aliveB [] false [.c .bool] h fun r h' => ∃ post, (r = (true, ()) ∧ post = []) ∧ St h G post h' := by
  apply hc_laws_aliveB
  unfold M_laws_aliveB
  have S := St.start hG
  refine st_callT S [] (fun G hG => c_exMake hG) ?_
  rintro _ _ _ ⟨rfl, rfl⟩ S
  dsimp only [List.cons_append, List.nil_append] at S
  refine st_callT S [] (fun G hG => c_exItems hG) ?_
  rintro _ _ _ ⟨ne, rfl, rfl⟩ S
  dsimp only [List.cons_append, List.nil_append] at S
  refine w_guard ⟨by decide, by show (3 : Int) ≤ ((7 : Nat) : Int); decide⟩ ?_
  have hp := (Rdr.ow (L := LT) (xs := exI) (p := (ne, 0)) (n := 7) (k := 0) rfl).part 0 3 (by decide)
  refine st_callT S [.ow (ne, 0)] (fun G hG => c_BSetI (o := []) Rdr.nil (by decide) (by decide) hp (by decide) hG) ?_
  rintro _ _ _ ⟨s, t, rfl, hs, ht, rfl⟩ S
  dsimp only [List.cons_append, List.nil_append] at S
  have hl : t.2.1 = 3 := ht.1
  refine rt_1 rfl ⟨_, ⟨?_, rfl⟩, (S.dels [.ow (ne, 0), .sl s, .sl t])⟩
  rw [hl]; rfl
end
section
variable {h hI : H} {o : List Int} {op : Option PA} {on oc : Nat} {xs : List IV} {sp : Option PA} {n cap : Nat}
end
end Go.Proofs.Ytlmiafbcgfegpaa
