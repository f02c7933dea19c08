/-
  The reference with an order: items set, the least one. Examples, bounds, equal lists. Conditions: none.
-/
import Derived.Test.YtegnpimlfphncaaYis
import Derived.Test.YtegnpimlfphncaaTs
import Derived.Test.YtegnpimlfphncaaGc
set_option linter.unusedVariables false
set_option linter.unusedSimpArgs false
set_option linter.unusedSectionVars false
set_option maxRecDepth 100000
namespace Go.Proofs.Ytegnpimlfphncaa
open Go
def M_laws_exItems  : M :=
 .alloc ty_impl_Item [.int .i64 (5), .int .i64 (1), .int .i64 (3), .int .i64 (2), .int .i64 (9), .int .i64 (3), .int .i64 (3), .int .i64 (4), .int .i64 (1), .int .i64 (5), .int .i64 (7), .int .i64 (6), .int .i64 (8), .int .i64 (7)] fun n0 =>
 .done .ret [.c (.sl (some (n0, 0)) (7) (7))]
theorem den_laws_exItems  : denFn Try.prog Try.f8 [] = M_laws_exItems  := by kernel_rfl
theorem hc_laws_exItems  {h : H} {R : Value → H → Prop} (hw : wp Try.prog (M_laws_exItems ) (Ret R) h) : HC Try.prog fn_laws_exItems (List.map AV.val []).toArray h R :=
  den_calls hmix Try.func8 (of_decide_eq_true rfl) (by rw [den_laws_exItems]; exact hw)
def M_laws_exMake  : M :=
 .alloc ty_impl_Make [.sl none (0) (0), .int .i64 (0), .ff] fun n0 =>
 .store (n0, 0) (.sl none (0) (0)) <|
 .store (n0, 1) (.int .i64 (2)) <|
 .store (n0, 2) (.ff) <|
 .load (n0, 0) (.sl) fun s1 =>
 .load (n0, 1) (.int .i64) fun i2 =>
 .load (n0, 2) (.bool) fun b3 =>
 .done .ret [.agg [.sl (s1.fst) (s1.snd.fst) (s1.snd.snd), .int .i64 (i2), .bool (b3)]]
theorem den_laws_exMake  : denFn Try.prog Try.f7 [] = M_laws_exMake  := by kernel_rfl
theorem hc_laws_exMake  {h : H} {R : Value → H → Prop} (hw : wp Try.prog (M_laws_exMake ) (Ret R) h) : HC Try.prog fn_laws_exMake (List.map AV.val []).toArray h R :=
  den_calls hmix Try.func7 (of_decide_eq_true rfl) (by rw [den_laws_exMake]; exact hw)
def M_laws_zzFits1 (a00p : Option PA) (a00l : Nat) (a00c : Nat) (a01 : Int) (a02 : Bool) : M :=
 .alloc ty_impl_Make [.sl (a00p) (a00l) (a00c), .int .i64 (a01), .bool (a02)] fun n0 =>
 .load (n0, 0) (.sl) fun s1 =>
 .ite (decide ((↑s1.snd.fst : Int) > 2147483647))
 (.done .ret [.c (.ff)])
 (.done .ret [.c (.tt)])
theorem den_laws_zzFits1 (a00p : Option PA) (a00l : Nat) (a00c : Nat) (a01 : Int) (a02 : Bool) : denFn Try.prog Try.f5 [.agg [.sl a00p a00l a00c, .int .i64 a01, .bool a02]] = M_laws_zzFits1 a00p a00l a00c a01 a02 := by kernel_rfl
theorem hc_laws_zzFits1 (a00p : Option PA) (a00l : Nat) (a00c : Nat) (a01 : Int) (a02 : Bool) {h : H} {R : Value → H → Prop} (hw : wp Try.prog (M_laws_zzFits1 a00p a00l a00c a01 a02) (Ret R) h) : HC Try.prog fn_laws_zzFits1 (List.map AV.val [.agg [.sl a00p a00l a00c, .int .i64 a01, .bool a02]]).toArray h R :=
  den_calls hmix Try.func5 (of_decide_eq_true rfl) (by rw [den_laws_zzFits1]; exact hw)
def exI : List IV := [(5, 1), (3, 2), (9, 3), (3, 4), (1, 5), (7, 6), (8, 7)]
section
variable {Q : Ex → List AV → H → Prop} {h h0 : H} {G0 : PA → Prop} {l : List Ck}
theorem st_eqT (s : St h0 G0 l h) (q1 q2 : Kq) {c1 c2 : Ck} {a b : SlT} {xs ys : List IV} (ha : Rdr c1 a LT xs) (hb : Rdr c2 b LT ys) (hl : xs.length ≤ 4294967296) {r m : List Ck} [Pks [q1, q2] l [c1, c2] r m] {k : SV [.c .bool] → M}
    (hw : ∀ h', St h0 G0 (c1 :: c2 :: r) h' → wp Try.prog (k (decide (xs = ys), ())) Q h') : wp Try.prog (.call fn_slices_Equal_impl_Item_impl_Item [.c (.sl a.1 a.2.1 a.2.2), .c (.sl b.1 b.2.1 b.2.2)] false [.c .bool] k) Q h := by
  have S := s.perm (Pks.perm [q1, q2] (m := m))
  refine st_callT (l := StC [_, _] :: r) (St.st_in (m := [_, _]) S) [.ck (StC [c1, c2])] (fun G hG => c_EqualItems (Rdr.st (i := 0) rfl ha) (Rdr.st (i := 1) rfl hb) hl hG) ?_
  rintro _ _ _ ⟨rfl, rfl⟩ S
  exact hw _ (St.st_out S)
end
section
variable {h : H}
theorem c_exItems {G : PA → Prop} (hG : Star [] h G) : HT Try.prog fn_laws_exItems [] false [.c .sl] h fun r h' => ∃ post, (∃ n : Nat, r = ((some (n, 0), 7, 7), ()) ∧ post = [Ow (n, 0) (LT.flat exI) 0]) ∧ St h G post h' := by
  apply hc_laws_exItems
  unfold M_laws_exItems
  refine st_alloc (St.start hG) fun n _ S => ?_
  exact rt_1 rfl ⟨_, ⟨n, rfl, rfl⟩, S⟩
theorem c_exMake {G : PA → Prop} (hG : Star [] h G) : HT Try.prog fn_laws_exMake [] false [.agg [.sl, .int .i64, .bool]] h fun r h' => ∃ post, (r = (((none, 0, 0), 2, false, ()), ()) ∧ post = []) ∧ St h G post h' := by
  apply hc_laws_exMake
  unfold M_laws_exMake
  refine st_alloc (St.start hG) fun n _ S => ?_
  repeat (first | refine ld_int S rfl ?_ | refine ld_bool S rfl ?_ | refine st_store S (lt_ble rfl) fun _ S => ?_ | refine st_alloc S fun _ _ S => ?_ | refine ld_sln S rfl ?_ )
  exact rt_1 rfl ⟨_, ⟨rfl, rfl⟩, S.drop⟩
theorem c_zzFits1 {op : Option PA} {on oc : Nat} {d : Int} {nl : Bool} {G : PA → Prop} (hG : Star [] h G) :
    HT Try.prog fn_laws_zzFits1 [.agg [.sl op on oc, .int .i64 d, .bool nl]] false [.c .bool] h fun r h' => ∃ post, (r = (decide (on ≤ 2147483647), ()) ∧ post = []) ∧ St h G post h' := by
  apply hc_laws_zzFits1
  unfold M_laws_zzFits1
  refine st_alloc (St.start hG) fun n _ S => ?_
  refine ld_sl S op on oc rfl ?_
  by_cases h0 : on ≤ 2147483647
  · exact w_false (decide_eq_false (by (first | omega | ((try dsimp only [Sh.T, Sh1.T]); omega)))) (rt_1 rfl ⟨_, ⟨by rw [decide_eq_true h0], rfl⟩, S.drop⟩)
  · exact w_true (decide_eq_true (by (first | omega | ((try dsimp only [Sh.T, Sh1.T]); omega)))) (rt_1 rfl ⟨_, ⟨by rw [decide_eq_false h0], rfl⟩, S.drop⟩)
end
end Go.Proofs.Ytegnpimlfphncaa
