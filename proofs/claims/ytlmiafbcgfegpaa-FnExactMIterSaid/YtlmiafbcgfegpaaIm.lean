/-
  The thin package over the map of numbers: maps grown out of lists, the greatest item. Conditions: none.
-/
import Derived.Test.YtlmiafbcgfegpaaSp
import Derived.Test.YtlmiafbcgfegpaaRami
set_option linter.unusedVariables false
set_option linter.unusedSimpArgs false
set_option linter.unusedSectionVars false
set_option maxRecDepth 100000
namespace Go.Proofs.Ytlmiafbcgfegpaa
open Go
def M_impl_growMap (a0 : Int) (a1p : Option PA) (a1l : Nat) (a1c : Nat) : M :=
  .call fn_NewMap_int_int [.c (.int .i64 (a0))] false [.c (.ptr)] fun r0 =>
  .bind (some 0) (.loop [.c (.int .i64)] [.c (.int .i64 (0))] fun y1 =>
      .ite (decide (y1.fst < (↑a1l : Int)))
      (.nonnil (a1p) fun p2 =>
        .guard (((0 : Int) ≤ y1.fst) ∧ ((y1.fst : Int) < (↑a1l : Int))) <|
        .load (p2.fst, p2.snd + mulN (Int.toNat y1.fst) 2) (.int .i64) fun i3 =>
        .load (p2.fst, p2.snd + mulN (Int.toNat y1.fst) 2 + 1) (.int .i64) fun i4 =>
        .alloc ty_impl_Item [.int .i64 (0), .int .i64 (0)] fun n5 =>
        .store (n5, 0) (.int .i64 (i3)) <|
        .store (n5, 1) (.int .i64 (i4)) <|
        .load (n5, 0) (.int .i64) fun i6 =>
        .load (n5, 1) (.int .i64) fun i7 =>
        .call fn_mi_Set [.c (.ptr (r0.fst)), .c (.int .i64 (i6)), .c (.int .i64 (i7))] true [.c (.int .i64), .c (.bool)] fun r8 =>
        .guard (InK IntKind.i64 (y1.fst + 1)) <|
        .done .normal [.c (.int .i64 (y1.fst + 1))])
      (.done (.exit 0) [])) [] fun x9 =>
  .done .ret [.c (.ptr (r0.fst))]
theorem den_impl_growMap (a0 : Int) (a1p : Option PA) (a1l : Nat) (a1c : Nat) : denFn Try.prog Try.f69 [.c (.int .i64 a0), .c (.sl a1p a1l a1c)] = M_impl_growMap a0 a1p a1l a1c := by kernel_rfl
theorem hc_impl_growMap (a0 : Int) (a1p : Option PA) (a1l : Nat) (a1c : Nat) {h : H} {R : Value → H → Prop} (hw : wp Try.prog (M_impl_growMap a0 a1p a1l a1c) (Ret R) h) : HC Try.prog fn_impl_growMap (List.map AV.val [.c (.int .i64 a0), .c (.sl a1p a1l a1c)]).toArray h R :=
  den_calls hmix Try.func69 (of_decide_eq_true rfl) (by rw [den_impl_growMap]; exact hw)
def M_impl_found (a00 : Int) (a01 : Int) (a1 : Bool) : M :=
  .alloc ty_impl_Item [.int .i64 (a00), .int .i64 (a01)] fun n0 =>
  .alloc ty_impl_Found [.int .i64 (0), .int .i64 (0), .ff] fun n1 =>
  .ite (!a1)
  (.store (n1, 0) (.int .i64 (0)) <|
    .store (n1, 1) (.int .i64 (0)) <|
    .store (n1, 2) (.ff) <|
    .load (n1, 0) (.int .i64) fun i2 =>
    .load (n1, 1) (.int .i64) fun i3 =>
    .load (n1, 2) (.bool) fun b4 =>
    .done .ret [.agg [.int .i64 (i2), .int .i64 (i3), .bool (b4)]])
  (.load (n0, 0) (.int .i64) fun i5 =>
    .load (n0, 1) (.int .i64) fun i6 =>
    .store (n1, 0) (.int .i64 (i5)) <|
    .store (n1, 1) (.int .i64 (i6)) <|
    .store (n1, 2) (.tt) <|
    .load (n1, 0) (.int .i64) fun i7 =>
    .load (n1, 1) (.int .i64) fun i8 =>
    .load (n1, 2) (.bool) fun b9 =>
    .done .ret [.agg [.int .i64 (i7), .int .i64 (i8), .bool (b9)]])
theorem den_impl_found (a00 : Int) (a01 : Int) (a1 : Bool) : denFn Try.prog Try.f96 [.agg [.int .i64 a00, .int .i64 a01], .c (.bool a1)] = M_impl_found a00 a01 a1 := by kernel_rfl
theorem hc_impl_found (a00 : Int) (a01 : Int) (a1 : Bool) {h : H} {R : Value → H → Prop} (hw : wp Try.prog (M_impl_found a00 a01 a1) (Ret R) h) : HC Try.prog fn_impl_found (List.map AV.val [.agg [.int .i64 a00, .int .i64 a01], .c (.bool a1)]).toArray h R :=
  den_calls hmix Try.func96 (of_decide_eq_true rfl) (by rw [den_impl_found]; exact hw)
def M_impl_pair (a0 : Int) (a1 : Int) (a2 : Bool) : M :=
  .alloc ty_impl_Found [.int .i64 (0), .int .i64 (0), .ff] fun n0 =>
  .call fn_impl_found [.agg [.int .i64 (a0), .int .i64 (a1)], .c (.bool (a2))] false [.agg [.int .i64, .int .i64, .bool]] fun r1 =>
  .store (n0, 0) (.int .i64 (r1.fst.fst)) <|
  .store (n0, 1) (.int .i64 (r1.fst.snd.fst)) <|
  .store (n0, 2) (.bool (r1.fst.snd.snd.fst)) <|
  .load (n0, 0) (.int .i64) fun i2 =>
  .load (n0, 1) (.int .i64) fun i3 =>
  .load (n0, 2) (.bool) fun b4 =>
  .done .ret [.agg [.int .i64 (i2), .int .i64 (i3), .bool (b4)]]
theorem den_impl_pair (a0 : Int) (a1 : Int) (a2 : Bool) : denFn Try.prog Try.f108 [.c (.int .i64 a0), .c (.int .i64 a1), .c (.bool a2)] = M_impl_pair a0 a1 a2 := by kernel_rfl
theorem hc_impl_pair (a0 : Int) (a1 : Int) (a2 : Bool) {h : H} {R : Value → H → Prop} (hw : wp Try.prog (M_impl_pair a0 a1 a2) (Ret R) h) : HC Try.prog fn_impl_pair (List.map AV.val [.c (.int .i64 a0), .c (.int .i64 a1), .c (.bool a2)]).toArray h R :=
  den_calls hmix Try.func108 (of_decide_eq_true rfl) (by rw [den_impl_pair]; exact hw)
def M_laws_exItems  : M :=
  .alloc ty_impl_Item [.int .i64 (5), .int .i64 (1), .int .i64 (3), .int .i64 (2), .int .i64 (9), .int .i64 (3), .int .i64 (3), .int .i64 (4), .int .i64 (1), .int .i64 (5), .int .i64 (7), .int .i64 (6), .int .i64 (8), .int .i64 (7)] fun n0 =>
  .done .ret [.c (.sl (some (n0, 0)) (7) (7))]
theorem den_laws_exItems  : denFn Try.prog Try.f22 [] = M_laws_exItems  := by kernel_rfl
theorem hc_laws_exItems  {h : H} {R : Value → H → Prop} (hw : wp Try.prog (M_laws_exItems ) (Ret R) h) : HC Try.prog fn_laws_exItems (List.map AV.val []).toArray h R :=
  den_calls hmix Try.func22 (of_decide_eq_true rfl) (by rw [den_laws_exItems]; exact hw)
section
variable {h : H}
theorem lt_ltO : MI.lt = ltO [] := rfl
theorem c_growMap {c : Ck} {d : Int} (hd : d ≤ 536870912) {xs : List IV} {sp : Option PA} {n cap : Nat} (hx : Rdr c (sp, n, cap) LT xs) (hxl : xs.length ≤ 2147483647) {G : PA → Prop} (hG : Star [c] h G) :
    HT Try.prog fn_impl_growMap [.c (.int .i64 d), .c (.sl sp n cap)] false [.c .ptr] h fun r h' => ∃ post, (∃ m, r = (some (m, 0), ()) ∧ post = [c, MI.MpC 0 (MI.dgOf d) (m, 0) (treeO [] xs)]) ∧ St h G post h' := by
  apply hc_impl_growMap
  unfold M_impl_growMap
  have hn : n = xs.length := hx.1
  have S := St.start hG
  refine st_callT S [] (fun G hG => MI.c_NewMap hd hG) ?_
  rintro _ _ _ ⟨m, rfl, rfl⟩ S
  dsimp only [List.cons_append, List.nil_append] at S
  have S := S.pull1
  refine w_bnd (w_lp (fun r y h' => ∃ i : Nat, y = ((i : Int), ()) ∧ i + r = n ∧ St h G [c, MI.MpC 0 (MI.dgOf d) (m, 0) (treeO [] (xs.take i))] h') n rfl ⟨0, rfl, by omega, S⟩ ?_)
  rintro r _ _ ⟨i, rfl, hi, S⟩
  by_cases hlt : i < n
  · obtain ⟨p, hp, hrd⟩ := hx.ptr (by omega)
    dsimp only at hp
    subst hp
    have hxi := List.getElem?_eq_getElem (show i < xs.length by omega)
    have htl := treeO_len [] (xs.take i)
    have htl2 : (xs.take i).length ≤ i := List.length_take_le _ _
    simp only [Int.toNat_natCast, toNat_succ, toNat_succ2, toNat_pred]
    refine w_true (lt_t (by (first | omega | ((try dsimp only [Sh.T, Sh1.T]); omega)))) ?_
    repeat (first | refine w_nonnil ?_ | refine ld_int S rfl ?_ | refine ld_some S rfl ?_ | refine ld_ptr S _ rfl ?_ | refine ld_sls S rfl ?_ | refine ld_nil S rfl ?_ | refine ld_bool S rfl ?_ | refine st_store S (lt_ble rfl) fun _ S => ?_ | refine st_alloc S fun _ _ S => ?_ | refine st_held S rfl ?_ | refine w_guard (by (first | exact inK64 (by omega) (by omega) | omega | (constructor <;> omega) | ((try dsimp only [Sh.T, Sh1.T]); first | exact inK64 (by omega) (by omega) | omega | exact ⟨by decide, inK64 (by omega) (by omega)⟩ | trivial))) ?_ | refine bd_n rfl ?_ | refine bd_e rfl ?_ | refine bd_r ?_ | refine bd_p ?_ | refine ln_r ?_ | refine ln_e ?_ | refine w_true (b := true) rfl ?_ | refine w_false (b := false) rfl ?_ | refine w_guard (show noMeths _ _ by show _ = _; kernel_rfl) ?_ | refine w_item (S.rdr hrd) (by assumption) ?_ | refine h_item (S.rdr hrd) (by assumption) ?_ | refine w_num (S.rdr hro) (by assumption) ?_ | refine ld_sln S rfl ?_ | refine ld_sl S _ _ _ rfl ?_)
    refine st_callV S [.mp (m, 0)] (args' := [.c (.addr (m, 0)), .c (.int .i64 xs[i].1), .c (.int .i64 xs[i].2)]) rfl (fun G hG => MI.c_Set (by omega) hG) ?_
    rintro _ _ _ ⟨rfl, rfl⟩ S
    dsimp only [List.cons_append, List.nil_append] at S
    repeat (first | refine w_nonnil ?_ | refine ld_int S rfl ?_ | refine ld_some S rfl ?_ | refine ld_ptr S _ rfl ?_ | refine ld_sls S rfl ?_ | refine ld_nil S rfl ?_ | refine ld_bool S rfl ?_ | refine st_store S (lt_ble rfl) fun _ S => ?_ | refine st_alloc S fun _ _ S => ?_ | refine st_held S rfl ?_ | refine w_guard (by (first | exact inK64 (by omega) (by omega) | omega | (constructor <;> omega) | ((try dsimp only [Sh.T, Sh1.T]); first | exact inK64 (by omega) (by omega) | omega | exact ⟨by decide, inK64 (by omega) (by omega)⟩ | trivial))) ?_ | refine bd_n rfl ?_ | refine bd_e rfl ?_ | refine bd_r ?_ | refine bd_p ?_ | refine ln_r ?_ | refine ln_e ?_ | refine w_true (b := true) rfl ?_ | refine w_false (b := false) rfl ?_ | refine w_guard (show noMeths _ _ by show _ = _; kernel_rfl) ?_ | refine w_item (S.rdr hrd) (by assumption) ?_ | refine h_item (S.rdr hrd) (by assumption) ?_ | refine w_num (S.rdr hro) (by assumption) ?_ | refine ld_sln S rfl ?_ | refine ld_sl S _ _ _ rfl ?_)
    have e : put MI.lt (treeO [] (xs.take i)) (xs[i].1, xs[i].2) = treeO [] (xs.take (i + 1)) := by rw [take_snoc (by omega), treeO_snoc, lt_ltO]
    rw [e] at S
    exact ln_n rfl (r - 1) ⟨i + 1, rfl, by omega, S.only [.ck c, .mp (m, 0)]⟩ (by omega)
  · refine w_false (lt_f (by (first | omega | ((try dsimp only [Sh.T, Sh1.T]); omega)))) (ln_e (bd_e rfl (rt_1 rfl ⟨_, ⟨m, rfl, ?_⟩, S⟩)))
    rw [List.take_of_length_le (by omega)]
theorem c_found {k v : Int} {b : Bool} {G : PA → Prop} (hG : Star [] h G) :
    HT Try.prog fn_impl_found [.agg [.int .i64 k, .int .i64 v], .c (.bool b)] false [.agg [.int .i64, .int .i64, .bool]] h fun r h' => ∃ post, (r = (fT (if b then some (k, v) else none), ()) ∧ post = []) ∧ St h G post h' := by
  apply hc_impl_found
  unfold M_impl_found
  have S := St.start hG
  cases b
  · repeat (first | refine w_nonnil ?_ | refine ld_int S rfl ?_ | refine ld_some S rfl ?_ | refine ld_ptr S _ rfl ?_ | refine ld_sls S rfl ?_ | refine ld_nil S rfl ?_ | refine ld_bool S rfl ?_ | refine st_store S (lt_ble rfl) fun _ S => ?_ | refine st_alloc S fun _ _ S => ?_ | refine st_held S rfl ?_ | refine w_guard (by (first | exact inK64 (by omega) (by omega) | omega | (constructor <;> omega) | ((try dsimp only [Sh.T, Sh1.T]); first | exact inK64 (by omega) (by omega) | omega | exact ⟨by decide, inK64 (by omega) (by omega)⟩ | trivial))) ?_ | refine bd_n rfl ?_ | refine bd_e rfl ?_ | refine bd_r ?_ | refine bd_p ?_ | refine ln_r ?_ | refine ln_e ?_ | refine w_true (b := true) rfl ?_ | refine w_false (b := false) rfl ?_ | refine w_guard (show noMeths _ _ by show _ = _; kernel_rfl) ?_ | refine w_item (S.rdr hrd) (by assumption) ?_ | refine h_item (S.rdr hrd) (by assumption) ?_ | refine w_num (S.rdr hro) (by assumption) ?_ | refine ld_sln S rfl ?_ | refine ld_sl S _ _ _ rfl ?_)
    exact rt_1 rfl ⟨_, ⟨rfl, rfl⟩, S.drop.drop⟩
  · repeat (first | refine w_nonnil ?_ | refine ld_int S rfl ?_ | refine ld_some S rfl ?_ | refine ld_ptr S _ rfl ?_ | refine ld_sls S rfl ?_ | refine ld_nil S rfl ?_ | refine ld_bool S rfl ?_ | refine st_store S (lt_ble rfl) fun _ S => ?_ | refine st_alloc S fun _ _ S => ?_ | refine st_held S rfl ?_ | refine w_guard (by (first | exact inK64 (by omega) (by omega) | omega | (constructor <;> omega) | ((try dsimp only [Sh.T, Sh1.T]); first | exact inK64 (by omega) (by omega) | omega | exact ⟨by decide, inK64 (by omega) (by omega)⟩ | trivial))) ?_ | refine bd_n rfl ?_ | refine bd_e rfl ?_ | refine bd_r ?_ | refine bd_p ?_ | refine ln_r ?_ | refine ln_e ?_ | refine w_true (b := true) rfl ?_ | refine w_false (b := false) rfl ?_ | refine w_guard (show noMeths _ _ by show _ = _; kernel_rfl) ?_ | refine w_item (S.rdr hrd) (by assumption) ?_ | refine h_item (S.rdr hrd) (by assumption) ?_ | refine w_num (S.rdr hro) (by assumption) ?_ | refine ld_sln S rfl ?_ | refine ld_sl S _ _ _ rfl ?_)
    exact rt_1 rfl ⟨_, ⟨rfl, rfl⟩, S.drop.drop⟩
theorem c_pair {k v : Int} {b : Bool} {G : PA → Prop} (hG : Star [] h G) :
    HT Try.prog fn_impl_pair [.c (.int .i64 k), .c (.int .i64 v), .c (.bool b)] false [.agg [.int .i64, .int .i64, .bool]] h fun r h' => ∃ post, (r = (fT (if b then some (k, v) else none), ()) ∧ post = []) ∧ St h G post h' := by
  apply hc_impl_pair
  unfold M_impl_pair
  have S := St.start hG
  repeat (first | refine w_nonnil ?_ | refine ld_int S rfl ?_ | refine ld_some S rfl ?_ | refine ld_ptr S _ rfl ?_ | refine ld_sls S rfl ?_ | refine ld_nil S rfl ?_ | refine ld_bool S rfl ?_ | refine st_store S (lt_ble rfl) fun _ S => ?_ | refine st_alloc S fun _ _ S => ?_ | refine st_held S rfl ?_ | refine w_guard (by (first | exact inK64 (by omega) (by omega) | omega | (constructor <;> omega) | ((try dsimp only [Sh.T, Sh1.T]); first | exact inK64 (by omega) (by omega) | omega | exact ⟨by decide, inK64 (by omega) (by omega)⟩ | trivial))) ?_ | refine bd_n rfl ?_ | refine bd_e rfl ?_ | refine bd_r ?_ | refine bd_p ?_ | refine ln_r ?_ | refine ln_e ?_ | refine w_true (b := true) rfl ?_ | refine w_false (b := false) rfl ?_ | refine w_guard (show noMeths _ _ by show _ = _; kernel_rfl) ?_ | refine w_item (S.rdr hrd) (by assumption) ?_ | refine h_item (S.rdr hrd) (by assumption) ?_ | refine w_num (S.rdr hro) (by assumption) ?_ | refine ld_sln S rfl ?_ | refine ld_sl S _ _ _ rfl ?_)
  refine st_callT S [] (fun G hG => c_found hG) ?_
  rintro _ _ _ ⟨rfl, rfl⟩ S
  dsimp only [List.cons_append, List.nil_append] at S
  repeat (first | refine w_nonnil ?_ | refine ld_int S rfl ?_ | refine ld_some S rfl ?_ | refine ld_ptr S _ rfl ?_ | refine ld_sls S rfl ?_ | refine ld_nil S rfl ?_ | refine ld_bool S rfl ?_ | refine st_store S (lt_ble rfl) fun _ S => ?_ | refine st_alloc S fun _ _ S => ?_ | refine st_held S rfl ?_ | refine w_guard (by (first | exact inK64 (by omega) (by omega) | omega | (constructor <;> omega) | ((try dsimp only [Sh.T, Sh1.T]); first | exact inK64 (by omega) (by omega) | omega | exact ⟨by decide, inK64 (by omega) (by omega)⟩ | trivial))) ?_ | refine bd_n rfl ?_ | refine bd_e rfl ?_ | refine bd_r ?_ | refine bd_p ?_ | refine ln_r ?_ | refine ln_e ?_ | refine w_true (b := true) rfl ?_ | refine w_false (b := false) rfl ?_ | refine w_guard (show noMeths _ _ by show _ = _; kernel_rfl) ?_ | refine w_item (S.rdr hrd) (by assumption) ?_ | refine h_item (S.rdr hrd) (by assumption) ?_ | refine w_num (S.rdr hro) (by assumption) ?_ | refine ld_sln S rfl ?_ | refine ld_sl S _ _ _ rfl ?_)
  exact rt_1 rfl ⟨_, ⟨rfl, rfl⟩, S.drop⟩
def exI : List IV := [(5, 1), (3, 2), (9, 3), (3, 4), (1, 5), (7, 6), (8, 7)]
theorem c_exItems {G : PA → Prop} (hG : Star [] h G) : HT Try.prog fn_laws_exItems [] false [.c .sl] h fun r h' => ∃ post, (∃ n : Nat, r = ((some (n, 0), 7, 7), ()) ∧ post = [Ow (n, 0) (LT.flat exI) 0]) ∧ St h G post h' := by
  apply hc_laws_exItems
  unfold M_laws_exItems
  refine st_alloc (St.start hG) fun n _ S => ?_
  exact rt_1 rfl ⟨_, ⟨n, rfl, rfl⟩, S⟩
end
end Go.Proofs.Ytlmiafbcgfegpaa
