/-
  The law FnSHeight. Conditions: none.
-/
import Derived.Test.YtpbmahnieepmiaaPgA
import Derived.Test.YtpbmahnieepmiaaLawSLen
import Derived.Test.YtpbmahnieepmiaaHtms
import Derived.Test.YtpbmahnieepmiaaVkms
set_option linter.unusedVariables false
set_option linter.unusedSimpArgs false
set_option linter.unusedSectionVars false
set_option maxRecDepth 100000
namespace Go.Proofs.Ytpbmahnieepmiaa
open Go
def M_impl_SInsert (a0p : Option PA) (a0l : Nat) (a0c : Nat) : M :=
  .call fn_impl_growSet [.c (.sl (a0p) (a0l) (a0c))] false [.c (.ptr)] fun r0 =>
  .call fn_set_Keys [.c (.ptr (r0.fst))] false [.c (.sl)] fun r1 =>
  .done .ret [.c (.sl (r1.fst.fst) (r1.fst.snd.fst) (r1.fst.snd.snd))]
theorem den_impl_SInsert (a0p : Option PA) (a0l : Nat) (a0c : Nat) : denFn Try.prog Try.f23 [.c (.sl a0p a0l a0c)] = M_impl_SInsert a0p a0l a0c := by kernel_rfl
theorem hc_impl_SInsert (a0p : Option PA) (a0l : Nat) (a0c : Nat) {h : H} {R : Value → H → Prop} (hw : wp Try.prog (M_impl_SInsert a0p a0l a0c) (Ret R) h) : HC Try.prog fn_impl_SInsert (List.map AV.val [.c (.sl a0p a0l a0c)]).toArray h R :=
  den_calls hmix Try.func23 (of_decide_eq_true rfl) (by rw [den_impl_SInsert]; exact hw)
def M_laws_aliveS  : M :=
  .alloc ty_int [.int .i64 (5), .int .i64 (3), .int .i64 (9)] fun n0 =>
  .call fn_impl_SInsert [.c (.sl (some (n0, 0)) (3) (3))] false [.c (.sl)] fun r1 =>
  .done .ret [.c (.bool ((↑r1.fst.snd.fst : Int) == 3))]
theorem den_laws_aliveS  : denFn Try.prog Try.f13 [] = M_laws_aliveS  := by kernel_rfl
theorem hc_laws_aliveS  {h : H} {R : Value → H → Prop} (hw : wp Try.prog (M_laws_aliveS ) (Ret R) h) : HC Try.prog fn_laws_aliveS (List.map AV.val []).toArray h R :=
  den_calls hmix Try.func13 (of_decide_eq_true rfl) (by rw [den_laws_aliveS]; exact hw)
section
variable {h h0 : H} {G0 : PA → Prop} {l : List Ck}
theorem c_setKeysA {a0 : PA} {dg : Nat} {l : List IV} (hl : l.length ≤ 4294967296) {G : PA → Prop} (hG : Star [MS.MpC 0 dg a0 (kL l)] h G) :
    HT Try.prog fn_set_Keys [.c (.addr a0)] false [.c .sl] h fun r h' => ∃ post, (∃ s : SlT, r = (s, ()) ∧ OwnL LN s (yO l) ∧ post = [SlC s LN.sz (LN.flat (yO l)), MS.MpC 0 dg a0 (kL l)]) ∧ St h G post h' := by
  have e : MS.kO (kL l) = yO l := by unfold MS.kO kL yO; rw [List.map_map]; rfl
  apply hc_set_Keys
  unfold M_set_Keys
  refine st_callT (St.start hG) [.mp a0] (fun G hG => MS.c_Keys (by rw [kL_len]; exact hl) hG) ?_
  rintro _ _ _ ⟨s, rfl, hs, rfl⟩ S
  dsimp only [List.cons_append, List.nil_append] at S
  rw [e] at S hs
  exact rt_1 rfl ⟨_, ⟨s, rfl, hs, rfl⟩, S⟩
theorem c_SInsert {c : Ck} {xs : List Int} {sp : Option PA} {n cap : Nat} (hx : Rdr c (sp, n, cap) LN xs) (hxl : xs.length ≤ 2147483647) {G : PA → Prop} (hG : Star [c] h G) :
    HT Try.prog fn_impl_SInsert [.c (.sl sp n cap)] false [.c .sl] h fun r h' => ∃ post, (∃ s : SlT, r = (s, ()) ∧ OwnL LN s (yO (setO xs)) ∧ post = [c, SlC s LN.sz (LN.flat (yO (setO xs)))]) ∧ St h G post h' := by
  apply hc_impl_SInsert
  unfold M_impl_SInsert
  have hsl := setO_len xs
  refine st_callT (St.start hG) [.ck c] (fun G hG => c_growSet hx hxl hG) ?_
  rintro _ _ _ ⟨m, rfl, rfl⟩ S
  dsimp only [List.cons_append, List.nil_append] at S
  refine st_callV S [.mp (m, 0)] (args' := [.c (.addr (m, 0))]) rfl (fun G hG => c_setKeysA (by omega) hG) ?_
  rintro _ _ _ ⟨s, rfl, hs, rfl⟩ S
  dsimp only [List.cons_append, List.nil_append] at S
  exact rt_1 rfl ⟨_, ⟨s, rfl, hs, rfl⟩, S.only [.ck c, .sl s]⟩
theorem c_aliveS {G : PA → Prop} (hG : Star [] h G) : HT Try.prog fn_laws_aliveS [] false [.c .bool] h fun r h' => ∃ post, (r = (true, ()) ∧ post = []) ∧ St h G post h' := by
  apply hc_laws_aliveS
  unfold M_laws_aliveS
  refine st_alloc (St.start hG) fun ne _ S => ?_
  have S := S.re (ne, 0) (LN.flat [5, 3, 9]) 0 rfl rfl rfl
  refine st_callT S [.ow (ne, 0)] (fun G hG => c_SInsert (xs := [5, 3, 9]) (Rdr.ow (xs := [5, 3, 9]) rfl) (by decide) hG) ?_
  rintro _ _ _ ⟨s, rfl, hs, rfl⟩ S
  dsimp only [List.cons_append, List.nil_append] at S
  have e : s.2.1 = 3 := hs.1
  refine rt_1 rfl ⟨_, ⟨?_, rfl⟩, S.only []⟩
  rw [e]; rfl
end
end Go.Proofs.Ytpbmahnieepmiaa
