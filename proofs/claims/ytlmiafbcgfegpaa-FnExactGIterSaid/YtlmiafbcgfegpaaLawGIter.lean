/-
  The law FnExactGIter. Conditions: none.
-/
import Derived.Test.YtlmiafbcgfegpaaPgI
import Derived.Test.YtlmiafbcgfegpaaYiw
import Derived.Test.YtlmiafbcgfegpaaYal
set_option linter.unusedVariables false
set_option linter.unusedSimpArgs false
set_option linter.unusedSectionVars false
set_option maxRecDepth 100000
namespace Go.Proofs.Ytlmiafbcgfegpaa
open Go
def M_impl_GIter (a00p : Option PA) (a00l : Nat) (a00c : Nat) (a01 : Int) (a02 : Bool) (a1p : Option PA) (a1l : Nat) (a1c : Nat) (a2p : Option PA) (a2l : Nat) (a2c : Nat) : M :=
  .alloc ty_impl_Make [.sl (a00p) (a00l) (a00c), .int .i64 (a01), .bool (a02)] fun n0 =>
  .load (n0, 0) (.sl) fun s1 =>
  .load (n0, 1) (.int .i64) fun i2 =>
  .load (n0, 2) (.bool) fun b3 =>
  .call fn_impl_grow [.agg [.sl (s1.fst) (s1.snd.fst) (s1.snd.snd), .int .i64 (i2), .bool (b3)], .c (.sl (a1p) (a1l) (a1c))] false [.c (.ptr)] fun r4 =>
  .call fn_tg_Iter [.c (.ptr (r4.fst))] false [.agg [.ptr, .bool, .bool, .bool, .bool, .bool, .ptr, .int .i64, .ptr, .int .i64, .ptr, .int .i64, .ptr, .int .i64, .sl, .int .i64, .int .i64]] fun r5 =>
  .alloc ty_btree_IterG_pub_greenwood_impl_Item [.ptr none, .ff, .ff, .ff, .ff, .ff, .ptr none, .int .i64 (0), .ptr none, .int .i64 (0), .ptr none, .int .i64 (0), .ptr none, .int .i64 (0), .sl none (0) (0), .int .i64 (0), .int .i64 (0)] fun n6 =>
  .store (n6, 0) (.ptr (r5.fst.fst)) <|
  .store (n6, 1) (.bool (r5.fst.snd.fst)) <|
  .store (n6, 2) (.bool (r5.fst.snd.snd.fst)) <|
  .store (n6, 3) (.bool (r5.fst.snd.snd.snd.fst)) <|
  .store (n6, 4) (.bool (r5.fst.snd.snd.snd.snd.fst)) <|
  .store (n6, 5) (.bool (r5.fst.snd.snd.snd.snd.snd.fst)) <|
  .store (n6, 6) (.ptr (r5.fst.snd.snd.snd.snd.snd.snd.fst)) <|
  .store (n6, 7) (.int .i64 (r5.fst.snd.snd.snd.snd.snd.snd.snd.fst)) <|
  .store (n6, 8) (.ptr (r5.fst.snd.snd.snd.snd.snd.snd.snd.snd.fst)) <|
  .store (n6, 9) (.int .i64 (r5.fst.snd.snd.snd.snd.snd.snd.snd.snd.snd.fst)) <|
  .store (n6, 10) (.ptr (r5.fst.snd.snd.snd.snd.snd.snd.snd.snd.snd.snd.fst)) <|
  .store (n6, 11) (.int .i64 (r5.fst.snd.snd.snd.snd.snd.snd.snd.snd.snd.snd.snd.fst)) <|
  .store (n6, 12) (.ptr (r5.fst.snd.snd.snd.snd.snd.snd.snd.snd.snd.snd.snd.snd.fst)) <|
  .store (n6, 13) (.int .i64 (r5.fst.snd.snd.snd.snd.snd.snd.snd.snd.snd.snd.snd.snd.snd.fst)) <|
  .store (n6, 14) (.sl (r5.fst.snd.snd.snd.snd.snd.snd.snd.snd.snd.snd.snd.snd.snd.snd.fst.fst) (r5.fst.snd.snd.snd.snd.snd.snd.snd.snd.snd.snd.snd.snd.snd.snd.fst.snd.fst) (r5.fst.snd.snd.snd.snd.snd.snd.snd.snd.snd.snd.snd.snd.snd.snd.fst.snd.snd)) <|
  .store (n6, 15) (.int .i64 (r5.fst.snd.snd.snd.snd.snd.snd.snd.snd.snd.snd.snd.snd.snd.snd.snd.fst)) <|
  .store (n6, 16) (.int .i64 (r5.fst.snd.snd.snd.snd.snd.snd.snd.snd.snd.snd.snd.snd.snd.snd.snd.snd.fst)) <|
  .call fn_impl_moved [.c (.addr (n6, 0)), .c (.sl (a2p) (a2l) (a2c))] false [.c (.sl)] fun r7 =>
  .call fn_ig_Release [.c (.addr (n6, 0))] true [] fun r8 =>
  .done .ret [.c (.sl (r7.fst.fst) (r7.fst.snd.fst) (r7.fst.snd.snd))]
theorem den_impl_GIter (a00p : Option PA) (a00l : Nat) (a00c : Nat) (a01 : Int) (a02 : Bool) (a1p : Option PA) (a1l : Nat) (a1c : Nat) (a2p : Option PA) (a2l : Nat) (a2c : Nat) : denFn Try.prog Try.f42 [.agg [.sl a00p a00l a00c, .int .i64 a01, .bool a02], .c (.sl a1p a1l a1c), .c (.sl a2p a2l a2c)] = M_impl_GIter a00p a00l a00c a01 a02 a1p a1l a1c a2p a2l a2c := by kernel_rfl
theorem hc_impl_GIter (a00p : Option PA) (a00l : Nat) (a00c : Nat) (a01 : Int) (a02 : Bool) (a1p : Option PA) (a1l : Nat) (a1c : Nat) (a2p : Option PA) (a2l : Nat) (a2c : Nat) {h : H} {R : Value → H → Prop} (hw : wp Try.prog (M_impl_GIter a00p a00l a00c a01 a02 a1p a1l a1c a2p a2l a2c) (Ret R) h) : HC Try.prog fn_impl_GIter (List.map AV.val [.agg [.sl a00p a00l a00c, .int .i64 a01, .bool a02], .c (.sl a1p a1l a1c), .c (.sl a2p a2l a2c)]).toArray h R :=
  den_calls hmix Try.func42 (of_decide_eq_true rfl) (by rw [den_impl_GIter]; exact hw)
def M_laws_gIter (a00p : Option PA) (a00l : Nat) (a00c : Nat) (a01 : Int) (a02 : Bool) (a1p : Option PA) (a1l : Nat) (a1c : Nat) (a2p : Option PA) (a2l : Nat) (a2c : Nat) : M :=
  .alloc ty_impl_Make [.sl (a00p) (a00l) (a00c), .int .i64 (a01), .bool (a02)] fun n0 =>
  .load (n0, 0) (.sl) fun s1 =>
  .load (n0, 1) (.int .i64) fun i2 =>
  .load (n0, 2) (.bool) fun b3 =>
  .call fn_impl_GIter [.agg [.sl (s1.fst) (s1.snd.fst) (s1.snd.snd), .int .i64 (i2), .bool (b3)], .c (.sl (a1p) (a1l) (a1c)), .c (.sl (a2p) (a2l) (a2c))] false [.c (.sl)] fun r4 =>
  .load (n0, 0) (.sl) fun s5 =>
  .load (n0, 0) (.sl) fun s6 =>
  .call fn_spec_Tree [.c (.sl (s6.fst) (s6.snd.fst) (s6.snd.snd)), .c (.sl (a1p) (a1l) (a1c))] false [.c (.sl)] fun r7 =>
  .held (n0, 0) (.sl (s5.fst) (s5.snd.fst) (s5.snd.snd)) <|
  .call fn_spec_Iter [.c (.sl (s5.fst) (s5.snd.fst) (s5.snd.snd)), .c (.sl (r7.fst.fst) (r7.fst.snd.fst) (r7.fst.snd.snd)), .c (.sl (a2p) (a2l) (a2c))] true [.c (.sl), .c (.sl)] fun r8 =>
  .call fn_laws_sameMoves [.c (.sl (r4.fst.fst) (r4.fst.snd.fst) (r4.fst.snd.snd)), .c (.sl (r8.fst.fst) (r8.fst.snd.fst) (r8.fst.snd.snd)), .c (.sl (r8.snd.fst.fst) (r8.snd.fst.snd.fst) (r8.snd.fst.snd.snd))] false [.c (.bool)] fun r9 =>
  .done .ret [.c (.bool (r9.fst))]
theorem den_laws_gIter (a00p : Option PA) (a00l : Nat) (a00c : Nat) (a01 : Int) (a02 : Bool) (a1p : Option PA) (a1l : Nat) (a1c : Nat) (a2p : Option PA) (a2l : Nat) (a2c : Nat) : denFn Try.prog Try.f20 [.agg [.sl a00p a00l a00c, .int .i64 a01, .bool a02], .c (.sl a1p a1l a1c), .c (.sl a2p a2l a2c)] = M_laws_gIter a00p a00l a00c a01 a02 a1p a1l a1c a2p a2l a2c := by kernel_rfl
theorem hc_laws_gIter (a00p : Option PA) (a00l : Nat) (a00c : Nat) (a01 : Int) (a02 : Bool) (a1p : Option PA) (a1l : Nat) (a1c : Nat) (a2p : Option PA) (a2l : Nat) (a2c : Nat) {h : H} {R : Value → H → Prop} (hw : wp Try.prog (M_laws_gIter a00p a00l a00c a01 a02 a1p a1l a1c a2p a2l a2c) (Ret R) h) : HC Try.prog fn_laws_gIter (List.map AV.val [.agg [.sl a00p a00l a00c, .int .i64 a01, .bool a02], .c (.sl a1p a1l a1c), .c (.sl a2p a2l a2c)]).toArray h R :=
  den_calls hmix Try.func20 (of_decide_eq_true rfl) (by rw [den_laws_gIter]; exact hw)
def M_laws_FnExactGIter (a00p : Option PA) (a00l : Nat) (a00c : Nat) (a01 : Int) (a02 : Bool) (a1p : Option PA) (a1l : Nat) (a1c : Nat) (a2p : Option PA) (a2l : Nat) (a2c : Nat) : M :=
  .alloc ty_impl_Make [.sl (a00p) (a00l) (a00c), .int .i64 (a01), .bool (a02)] fun n0 =>
  .bind none (.load (n0, 0) (.sl) fun s1 =>
    .load (n0, 1) (.int .i64) fun i2 =>
    .load (n0, 2) (.bool) fun b3 =>
    .call fn_laws_zzFits1 [.agg [.sl (s1.fst) (s1.snd.fst) (s1.snd.snd), .int .i64 (i2), .bool (b3)]] false [.c (.bool)] fun r4 =>
    .ite (!r4.fst)
    (.done .normal [.c (.tt)])
    (.ite (decide ((↑a1l : Int) > 2147483647))
      (.done .normal [.c (.tt)])
      (.done .normal [.c (.bool (decide ((↑a2l : Int) > 2147483647)))]))) [.c (.bool)] fun x5 =>
  .ite (x5.fst)
  (.done .ret [.c (.tt)])
  (.bind none (.call fn_laws_exMake [] false [.agg [.sl, .int .i64, .bool]] fun r6 =>
      .call fn_laws_exItems [] false [.c (.sl)] fun r7 =>
      .call fn_laws_exMoves [] false [.c (.sl)] fun r8 =>
      .call fn_laws_gIter [.agg [.sl (r6.fst.fst.fst) (r6.fst.fst.snd.fst) (r6.fst.fst.snd.snd), .int .i64 (r6.fst.snd.fst), .bool (r6.fst.snd.snd.fst)], .c (.sl (r7.fst.fst) (r7.fst.snd.fst) (r7.fst.snd.snd)), .c (.sl (r8.fst.fst) (r8.fst.snd.fst) (r8.fst.snd.snd))] false [.c (.bool)] fun r9 =>
      .ite (r9.fst)
      (.load (n0, 1) (.int .i64) fun i10 =>
        .call fn_spec_Fits [.c (.int .i64 (i10))] false [.c (.bool)] fun r11 =>
        .ite (!r11.fst)
        (.done .normal [.c (.tt)])
        (.load (n0, 0) (.sl) fun s12 =>
          .load (n0, 1) (.int .i64) fun i13 =>
          .load (n0, 2) (.bool) fun b14 =>
          .call fn_laws_gIter [.agg [.sl (s12.fst) (s12.snd.fst) (s12.snd.snd), .int .i64 (i13), .bool (b14)], .c (.sl (a1p) (a1l) (a1c)), .c (.sl (a2p) (a2l) (a2c))] false [.c (.bool)] fun r15 =>
          .done .normal [.c (.bool (r15.fst))]))
      (.done .normal [.c (.ff)])) [.c (.bool)] fun x16 =>
    .done .ret [.c (.bool (x16.fst))])
theorem den_laws_FnExactGIter (a00p : Option PA) (a00l : Nat) (a00c : Nat) (a01 : Int) (a02 : Bool) (a1p : Option PA) (a1l : Nat) (a1c : Nat) (a2p : Option PA) (a2l : Nat) (a2c : Nat) : denFn Try.prog Try.f4 [.agg [.sl a00p a00l a00c, .int .i64 a01, .bool a02], .c (.sl a1p a1l a1c), .c (.sl a2p a2l a2c)] = M_laws_FnExactGIter a00p a00l a00c a01 a02 a1p a1l a1c a2p a2l a2c := by kernel_rfl
theorem hc_laws_FnExactGIter (a00p : Option PA) (a00l : Nat) (a00c : Nat) (a01 : Int) (a02 : Bool) (a1p : Option PA) (a1l : Nat) (a1c : Nat) (a2p : Option PA) (a2l : Nat) (a2c : Nat) {h : H} {R : Value → H → Prop} (hw : wp Try.prog (M_laws_FnExactGIter a00p a00l a00c a01 a02 a1p a1l a1c a2p a2l a2c) (Ret R) h) : HC Try.prog fn_laws_FnExactGIter (List.map AV.val [.agg [.sl a00p a00l a00c, .int .i64 a01, .bool a02], .c (.sl a1p a1l a1c), .c (.sl a2p a2l a2c)]).toArray h R :=
  den_calls hmix Try.func4 (of_decide_eq_true rfl) (by rw [den_laws_FnExactGIter]; exact hw)
abbrev ItS : List Sh1 := [.ptr, .bool, .bool, .bool, .bool, .bool, .ptr, .int .i64, .ptr, .int .i64, .ptr, .int .i64, .ptr, .int .i64, .sl, .int .i64, .int .i64]
def itI (q : PA) (s : PA) : SV1 ItS := (some q, false, false, false, false, false, none, 0, none, 0, none, 0, none, 0, (some s, 0, 4), 0, 0, ())
section
variable {h h0 : H} {G0 : PA → Prop} {l : List Ck}
theorem St.room {n : Nat} {A C : List Value} (S : St h0 G0 (Ow (n, 0) (A ++ ([.pointer none, .int .i64 0, .pointer none, .int .i64 0, .pointer none, .int .i64 0, .pointer none, .int .i64 0] ++ C)) 0 :: l) h) (hA : A.length = 6) : St h0 G0 (Ow (n, 6) (TG.LFr.flat []) (4 * TG.LFr.sz) :: l) h := by
  have S := (St.cut S).drop
  have S := S.re (n, 6) _ 0 (by rw [hA]) rfl rfl
  have S := (St.cut S)
  have S := (S.pull1).drop
  have S := S.re (n, 6) (TG.LFr.flat [] ++ [.pointer none, .int .i64 0, .pointer none, .int .i64 0, .pointer none, .int .i64 0, .pointer none, .int .i64 0]) 0 rfl rfl rfl
  exact S.shrink
end
theorem bes_mem {h : H} {G B : PA → Prop} {l : List Ck} (hB : Star l h B) (hd : dj G B) (c : Ck) (hc : c ∈ l) : Bes c h G := by
  obtain ⟨F, g1, g2⟩ := star_mem hB c hc
  exact ⟨F, g1, hd.symm.sub g2 fun _ hx => hx⟩
section
variable {h : H}
set_option maxHeartbeats 4000000 in
theorem c_iter0 {a0 : PA} {G : PA → Prop} (hG : Star [] h G) :
    HT Try.prog fn_tg_iter [.c (.addr a0), .c (.bool false)] false [.agg ItS] h fun r h' => ∃ post, (∃ n : Nat, r = (itI a0 (n, 6), ()) ∧ post = [Ow (n, 6) (TG.LFr.flat []) (4 * TG.LFr.sz)]) ∧ St h G post h' := by
  apply hc_tg_iter
  unfold M_tg_iter
  refine st_alloc (St.start hG) fun n0 _ S => ?_
  refine st_alloc S fun n1 _ S => ?_
  refine st_store S (by simp only [List.length_cons, List.length_nil, List.length_set, List.length_map]; decide) fun _ S => ?_
  refine st_store S (by simp only [List.length_cons, List.length_nil, List.length_set, List.length_map]; decide) fun _ S => ?_
  refine ld_bool S rfl ?_
  refine w_callT TG.c_lock ?_
  rintro _ _ ⟨rfl, rfl⟩
  refine st_store S (by simp only [List.length_cons, List.length_nil, List.length_set, List.length_map]; decide) fun _ S => ?_
  refine w_guard ⟨by decide, by decide⟩ ?_
  refine st_store S (by simp only [List.length_cons, List.length_nil, List.length_set, List.length_map]; decide) fun _ S => ?_
  dsimp only [List.map, List.set, Cell.val] at S
  refine ld_some S (by simp only [List.getElem?_cons_succ, List.getElem?_cons_zero]; rfl) ?_
  refine ld_bool S (by simp only [List.getElem?_cons_succ, List.getElem?_cons_zero]; rfl) ?_
  refine ld_bool S (by simp only [List.getElem?_cons_succ, List.getElem?_cons_zero]; rfl) ?_
  refine ld_bool S (by simp only [List.getElem?_cons_succ, List.getElem?_cons_zero]; rfl) ?_
  refine ld_bool S (by simp only [List.getElem?_cons_succ, List.getElem?_cons_zero]; rfl) ?_
  refine ld_bool S (by simp only [List.getElem?_cons_succ, List.getElem?_cons_zero]; rfl) ?_
  refine ld_nil S (by simp only [List.getElem?_cons_succ, List.getElem?_cons_zero]; rfl) ?_
  refine ld_int S (by simp only [List.getElem?_cons_succ, List.getElem?_cons_zero]; rfl) ?_
  refine ld_nil S (by simp only [List.getElem?_cons_succ, List.getElem?_cons_zero]; rfl) ?_
  refine ld_int S (by simp only [List.getElem?_cons_succ, List.getElem?_cons_zero]; rfl) ?_
  refine ld_nil S (by simp only [List.getElem?_cons_succ, List.getElem?_cons_zero]; rfl) ?_
  refine ld_int S (by simp only [List.getElem?_cons_succ, List.getElem?_cons_zero]; rfl) ?_
  refine ld_nil S (by simp only [List.getElem?_cons_succ, List.getElem?_cons_zero]; rfl) ?_
  refine ld_int S (by simp only [List.getElem?_cons_succ, List.getElem?_cons_zero]; rfl) ?_
  refine ld_sls S (by simp only [List.getElem?_cons_succ, List.getElem?_cons_zero]; rfl) ?_
  refine ld_int S (by simp only [List.getElem?_cons_succ, List.getElem?_cons_zero]; rfl) ?_
  refine ld_int S (by simp only [List.getElem?_cons_succ, List.getElem?_cons_zero]; rfl) ?_
  refine st_store S (by simp only [List.length_cons, List.length_nil, List.length_set, List.length_map]; decide) fun _ S => ?_
  refine st_store S (by simp only [List.length_cons, List.length_nil, List.length_set, List.length_map]; decide) fun _ S => ?_
  refine st_store S (by simp only [List.length_cons, List.length_nil, List.length_set, List.length_map]; decide) fun _ S => ?_
  refine st_store S (by simp only [List.length_cons, List.length_nil, List.length_set, List.length_map]; decide) fun _ S => ?_
  refine st_store S (by simp only [List.length_cons, List.length_nil, List.length_set, List.length_map]; decide) fun _ S => ?_
  refine st_store S (by simp only [List.length_cons, List.length_nil, List.length_set, List.length_map]; decide) fun _ S => ?_
  refine st_store S (by simp only [List.length_cons, List.length_nil, List.length_set, List.length_map]; decide) fun _ S => ?_
  refine st_store S (by simp only [List.length_cons, List.length_nil, List.length_set, List.length_map]; decide) fun _ S => ?_
  refine st_store S (by simp only [List.length_cons, List.length_nil, List.length_set, List.length_map]; decide) fun _ S => ?_
  refine st_store S (by simp only [List.length_cons, List.length_nil, List.length_set, List.length_map]; decide) fun _ S => ?_
  refine st_store S (by simp only [List.length_cons, List.length_nil, List.length_set, List.length_map]; decide) fun _ S => ?_
  refine st_store S (by simp only [List.length_cons, List.length_nil, List.length_set, List.length_map]; decide) fun _ S => ?_
  refine st_store S (by simp only [List.length_cons, List.length_nil, List.length_set, List.length_map]; decide) fun _ S => ?_
  refine st_store S (by simp only [List.length_cons, List.length_nil, List.length_set, List.length_map]; decide) fun _ S => ?_
  refine st_store S (by simp only [List.length_cons, List.length_nil, List.length_set, List.length_map]; decide) fun _ S => ?_
  refine st_store S (by simp only [List.length_cons, List.length_nil, List.length_set, List.length_map]; decide) fun _ S => ?_
  refine st_store S (by simp only [List.length_cons, List.length_nil, List.length_set, List.length_map]; decide) fun _ S => ?_
  dsimp only [List.map, List.set, Cell.val] at S
  refine ld_some S (by simp only [List.getElem?_cons_succ, List.getElem?_cons_zero]; rfl) ?_
  refine ld_bool S (by simp only [List.getElem?_cons_succ, List.getElem?_cons_zero]; rfl) ?_
  refine ld_bool S (by simp only [List.getElem?_cons_succ, List.getElem?_cons_zero]; rfl) ?_
  refine ld_bool S (by simp only [List.getElem?_cons_succ, List.getElem?_cons_zero]; rfl) ?_
  refine ld_bool S (by simp only [List.getElem?_cons_succ, List.getElem?_cons_zero]; rfl) ?_
  refine ld_bool S (by simp only [List.getElem?_cons_succ, List.getElem?_cons_zero]; rfl) ?_
  refine ld_nil S (by simp only [List.getElem?_cons_succ, List.getElem?_cons_zero]; rfl) ?_
  refine ld_int S (by simp only [List.getElem?_cons_succ, List.getElem?_cons_zero]; rfl) ?_
  refine ld_nil S (by simp only [List.getElem?_cons_succ, List.getElem?_cons_zero]; rfl) ?_
  refine ld_int S (by simp only [List.getElem?_cons_succ, List.getElem?_cons_zero]; rfl) ?_
  refine ld_nil S (by simp only [List.getElem?_cons_succ, List.getElem?_cons_zero]; rfl) ?_
  refine ld_int S (by simp only [List.getElem?_cons_succ, List.getElem?_cons_zero]; rfl) ?_
  refine ld_nil S (by simp only [List.getElem?_cons_succ, List.getElem?_cons_zero]; rfl) ?_
  refine ld_int S (by simp only [List.getElem?_cons_succ, List.getElem?_cons_zero]; rfl) ?_
  refine ld_sls S (by simp only [List.getElem?_cons_succ, List.getElem?_cons_zero]; rfl) ?_
  refine ld_int S (by simp only [List.getElem?_cons_succ, List.getElem?_cons_zero]; rfl) ?_
  refine ld_int S (by simp only [List.getElem?_cons_succ, List.getElem?_cons_zero]; rfl) ?_
  exact rt_1 rfl ⟨_, ⟨n1, rfl, rfl⟩, (St.room (A := [.pointer (some a0.val), .bool false, .bool false, .bool false, .bool false, .bool false]) (C := [.slice (some (PA.val (n1, 6))) 0 4, .int .i64 0, .int .i64 0]) ((S.at (.ow (n1, 0))).re (n1, 0) _ 0 rfl rfl rfl) rfl).only [.ow (n1, 6)]⟩
set_option maxHeartbeats 4000000 in
theorem c_Iter {a0 : PA} {G : PA → Prop} (hG : Star [] h G) :
    HT Try.prog fn_tg_Iter [.c (.addr a0)] false [.agg ItS] h fun r h' => ∃ post, (∃ n : Nat, r = (itI a0 (n, 6), ()) ∧ post = [Ow (n, 6) (TG.LFr.flat []) (4 * TG.LFr.sz)]) ∧ St h G post h' := by
  apply hc_tg_Iter
  unfold M_tg_Iter
  refine st_alloc (St.start hG) fun n0 _ S => ?_
  refine st_callT S [] (fun G hG => c_iter0 hG) ?_
  rintro _ _ _ ⟨n, rfl, rfl⟩ S
  dsimp only [List.cons_append, List.nil_append] at S
  dsimp only [itI]
  refine st_store S (by simp only [List.length_cons, List.length_nil, List.length_set, List.length_map]; decide) fun _ S => ?_
  refine st_store S (by simp only [List.length_cons, List.length_nil, List.length_set, List.length_map]; decide) fun _ S => ?_
  refine st_store S (by simp only [List.length_cons, List.length_nil, List.length_set, List.length_map]; decide) fun _ S => ?_
  refine st_store S (by simp only [List.length_cons, List.length_nil, List.length_set, List.length_map]; decide) fun _ S => ?_
  refine st_store S (by simp only [List.length_cons, List.length_nil, List.length_set, List.length_map]; decide) fun _ S => ?_
  refine st_store S (by simp only [List.length_cons, List.length_nil, List.length_set, List.length_map]; decide) fun _ S => ?_
  refine st_store S (by simp only [List.length_cons, List.length_nil, List.length_set, List.length_map]; decide) fun _ S => ?_
  refine st_store S (by simp only [List.length_cons, List.length_nil, List.length_set, List.length_map]; decide) fun _ S => ?_
  refine st_store S (by simp only [List.length_cons, List.length_nil, List.length_set, List.length_map]; decide) fun _ S => ?_
  refine st_store S (by simp only [List.length_cons, List.length_nil, List.length_set, List.length_map]; decide) fun _ S => ?_
  refine st_store S (by simp only [List.length_cons, List.length_nil, List.length_set, List.length_map]; decide) fun _ S => ?_
  refine st_store S (by simp only [List.length_cons, List.length_nil, List.length_set, List.length_map]; decide) fun _ S => ?_
  refine st_store S (by simp only [List.length_cons, List.length_nil, List.length_set, List.length_map]; decide) fun _ S => ?_
  refine st_store S (by simp only [List.length_cons, List.length_nil, List.length_set, List.length_map]; decide) fun _ S => ?_
  refine st_store S (by simp only [List.length_cons, List.length_nil, List.length_set, List.length_map]; decide) fun _ S => ?_
  refine st_store S (by simp only [List.length_cons, List.length_nil, List.length_set, List.length_map]; decide) fun _ S => ?_
  refine st_store S (by simp only [List.length_cons, List.length_nil, List.length_set, List.length_map]; decide) fun _ S => ?_
  dsimp only [List.map, List.set, Cell.val] at S
  refine ld_some S (by simp only [List.getElem?_cons_succ, List.getElem?_cons_zero]; rfl) ?_
  refine ld_bool S (by simp only [List.getElem?_cons_succ, List.getElem?_cons_zero]; rfl) ?_
  refine ld_bool S (by simp only [List.getElem?_cons_succ, List.getElem?_cons_zero]; rfl) ?_
  refine ld_bool S (by simp only [List.getElem?_cons_succ, List.getElem?_cons_zero]; rfl) ?_
  refine ld_bool S (by simp only [List.getElem?_cons_succ, List.getElem?_cons_zero]; rfl) ?_
  refine ld_bool S (by simp only [List.getElem?_cons_succ, List.getElem?_cons_zero]; rfl) ?_
  refine ld_nil S (by simp only [List.getElem?_cons_succ, List.getElem?_cons_zero]; rfl) ?_
  refine ld_int S (by simp only [List.getElem?_cons_succ, List.getElem?_cons_zero]; rfl) ?_
  refine ld_nil S (by simp only [List.getElem?_cons_succ, List.getElem?_cons_zero]; rfl) ?_
  refine ld_int S (by simp only [List.getElem?_cons_succ, List.getElem?_cons_zero]; rfl) ?_
  refine ld_nil S (by simp only [List.getElem?_cons_succ, List.getElem?_cons_zero]; rfl) ?_
  refine ld_int S (by simp only [List.getElem?_cons_succ, List.getElem?_cons_zero]; rfl) ?_
  refine ld_nil S (by simp only [List.getElem?_cons_succ, List.getElem?_cons_zero]; rfl) ?_
  refine ld_int S (by simp only [List.getElem?_cons_succ, List.getElem?_cons_zero]; rfl) ?_
  refine ld_sls S (by simp only [List.getElem?_cons_succ, List.getElem?_cons_zero]; rfl) ?_
  refine ld_int S (by simp only [List.getElem?_cons_succ, List.getElem?_cons_zero]; rfl) ?_
  refine ld_int S (by simp only [List.getElem?_cons_succ, List.getElem?_cons_zero]; rfl) ?_
  exact rt_1 rfl ⟨_, ⟨n, rfl, rfl⟩, S.only [.ow (n, 6)]⟩
theorem c_Release {a tr : PA} {sk ats ate : Bool} {fs : List (Nat × Int)} {x : IV} {G : PA → Prop} (hG : Star [TG.ItC a tr sk ats ate fs x] h G) :
    HT Try.prog fn_ig_Release [.c (.addr a)] true [] h fun _ h' => ∃ post, (post = []) ∧ St h G post h' := by
  apply hc_ig_Release
  unfold M_ig_Release
  obtain ⟨⟨s1, s2, s3⟩, hs, S⟩ := TG.open_it (St.start hG)
  refine ld_some S rfl (w_false rfl (ld_bool S rfl (w_bnd (w_false rfl (bd_n rfl ?_)))))
  refine ld_sl S s1 s2 s3 rfl (w_guard ⟨by omega, by show (0 : Int) ≤ (s3 : Int); omega⟩ ?_)
  dsimp only [TG.itC] at S
  refine st_store S (by simp only [List.length_cons, List.length_nil, List.length_set, List.length_map]; decide) fun _ S => ?_
  refine st_store S (by simp only [List.length_cons, List.length_nil, List.length_set, List.length_map]; decide) fun _ S => ?_
  refine st_store S (by simp only [List.length_cons, List.length_nil, List.length_set, List.length_map]; decide) fun _ S => ?_
  refine st_store S (by simp only [List.length_cons, List.length_nil, List.length_set, List.length_map]; decide) fun _ S => ?_
  refine st_store S (by simp only [List.length_cons, List.length_nil, List.length_set, List.length_map]; decide) fun _ S => ?_
  refine st_store S (by simp only [List.length_cons, List.length_nil, List.length_set, List.length_map]; decide) fun _ S => ?_
  refine st_store S (by simp only [List.length_cons, List.length_nil, List.length_set, List.length_map]; decide) fun _ S => ?_
  refine st_store S (by simp only [List.length_cons, List.length_nil, List.length_set, List.length_map]; decide) fun _ S => ?_
  refine st_store S (by simp only [List.length_cons, List.length_nil, List.length_set, List.length_map]; decide) fun _ S => ?_
  refine st_store S (by simp only [List.length_cons, List.length_nil, List.length_set, List.length_map]; decide) fun _ S => ?_
  refine st_store S (by simp only [List.length_cons, List.length_nil, List.length_set, List.length_map]; decide) fun _ S => ?_
  refine st_store S (by simp only [List.length_cons, List.length_nil, List.length_set, List.length_map]; decide) fun _ S => ?_
  refine st_store S (by simp only [List.length_cons, List.length_nil, List.length_set, List.length_map]; decide) fun _ S => ?_
  refine st_store S (by simp only [List.length_cons, List.length_nil, List.length_set, List.length_map]; decide) fun _ S => ?_
  refine st_store S (by simp only [List.length_cons, List.length_nil, List.length_set, List.length_map]; decide) fun _ S => ?_
  refine st_store S (by simp only [List.length_cons, List.length_nil, List.length_set, List.length_map]; decide) fun _ S => ?_
  refine st_store S (by simp only [List.length_cons, List.length_nil, List.length_set, List.length_map]; decide) fun _ S => ?_
  refine st_store S (by simp only [List.length_cons, List.length_nil, List.length_set, List.length_map]; decide) fun _ S => ?_
  dsimp only [List.map, List.set, Cell.val] at S
  exact rt_n rfl rfl ⟨_, rfl, S.only []⟩
set_option maxHeartbeats 4000000 in
theorem c_GIterI {c : Ck} {o : List Int} {op : Option PA} {on oc : Nat} (hr : Rdr c (op, on, oc) LN o) (hl : o.length ≤ 2147483647) {d : Int} {nl : Bool} (hd : d ≤ 128) {xs : List IV} {sp : Option PA} {n cap : Nat} (hx : Rdr c (sp, n, cap) LT xs) (hxl : xs.length ≤ 2147483647) {ms : List MV} {mp : Option PA} {mn mc : Nat} (hm : Rdr c (mp, mn, mc) LM ms) (hml : ms.length ≤ 2147483648) {G : PA → Prop} (hG : Star [c] h G) :
    HT Try.prog fn_impl_GIter [.agg [.sl op on oc, .int .i64 d, .bool nl], .c (.sl sp n cap), .c (.sl mp mn mc)] false [.c .sl] h fun r h' => ∃ post, (∃ (s : SlT) (us : List (Option IV)), r = (s, ()) ∧ OwnL LF s us ∧ us.length = ms.length ∧ (∀ i : Nat, (itK o (treeO o xs) (-1) ms)[i]? = some true → us[i]? = (itF o (treeO o xs) (-1) ms)[i]?) ∧ post = [c, SlC s LF.sz (LF.flat us)]) ∧ St h G post h' := by
  apply hc_impl_GIter
  unfold M_impl_GIter
  have htl := treeO_len o xs
  refine st_alloc (St.start hG) fun n0 _ S => ?_
  (refine ld_sl S op on oc rfl (ld_int S rfl (ld_bool S rfl ?_)))
  (refine st_callT S [.ck c] (fun G hG => c_grow hr hl hd hx hxl hG) ?_; rintro _ _ _ ⟨m, f, rfl, rfl⟩ S; dsimp only [List.cons_append, List.nil_append] at S)
  refine st_callV S [] (args' := [.c (.addr (m, 0))]) rfl (fun G hG => c_Iter hG) ?_
  rintro _ _ _ ⟨nf, rfl, rfl⟩ S
  dsimp only [List.cons_append, List.nil_append] at S
  dsimp only [itI]
  refine st_alloc S fun n6 _ S => ?_
  refine st_store S (by simp only [List.length_cons, List.length_nil, List.length_set, List.length_map]; decide) fun _ S => ?_
  refine st_store S (by simp only [List.length_cons, List.length_nil, List.length_set, List.length_map]; decide) fun _ S => ?_
  refine st_store S (by simp only [List.length_cons, List.length_nil, List.length_set, List.length_map]; decide) fun _ S => ?_
  refine st_store S (by simp only [List.length_cons, List.length_nil, List.length_set, List.length_map]; decide) fun _ S => ?_
  refine st_store S (by simp only [List.length_cons, List.length_nil, List.length_set, List.length_map]; decide) fun _ S => ?_
  refine st_store S (by simp only [List.length_cons, List.length_nil, List.length_set, List.length_map]; decide) fun _ S => ?_
  refine st_store S (by simp only [List.length_cons, List.length_nil, List.length_set, List.length_map]; decide) fun _ S => ?_
  refine st_store S (by simp only [List.length_cons, List.length_nil, List.length_set, List.length_map]; decide) fun _ S => ?_
  refine st_store S (by simp only [List.length_cons, List.length_nil, List.length_set, List.length_map]; decide) fun _ S => ?_
  refine st_store S (by simp only [List.length_cons, List.length_nil, List.length_set, List.length_map]; decide) fun _ S => ?_
  refine st_store S (by simp only [List.length_cons, List.length_nil, List.length_set, List.length_map]; decide) fun _ S => ?_
  refine st_store S (by simp only [List.length_cons, List.length_nil, List.length_set, List.length_map]; decide) fun _ S => ?_
  refine st_store S (by simp only [List.length_cons, List.length_nil, List.length_set, List.length_map]; decide) fun _ S => ?_
  refine st_store S (by simp only [List.length_cons, List.length_nil, List.length_set, List.length_map]; decide) fun _ S => ?_
  refine st_store S (by simp only [List.length_cons, List.length_nil, List.length_set, List.length_map]; decide) fun _ S => ?_
  refine st_store S (by simp only [List.length_cons, List.length_nil, List.length_set, List.length_map]; decide) fun _ S => ?_
  refine st_store S (by simp only [List.length_cons, List.length_nil, List.length_set, List.length_map]; decide) fun _ S => ?_
  dsimp only [List.map, List.set, Cell.val] at S
  have S := TG.shut_it (a := (n6, 0)) (tr := (m, 0)) (sk := false) (ats := false) (ate := false) (fs := []) (x := (0, 0)) (p := (nf, 6)) (c := 4) (S.ats [.ow (n6, 0), .ow (nf, 6)]) rfl rfl (by decide) rfl
  have S := S.only [.ck (TG.ItC (n6, 0) (m, 0) false false false [] (0, 0)), .ck c, .ck (OcC f o), .mp (m, 0)]
  have fin : ∀ {h' : H} {s : SlT} {us : List (Option IV)} {sk ats ate : Bool} {fs : List (Nat × Int)} {x : IV} {R : List Ck}, OwnL LF s us → us.length = ms.length → (∀ i : Nat, (itK o (treeO o xs) (-1) ms)[i]? = some true → us[i]? = (itF o (treeO o xs) (-1) ms)[i]?) →
      St h G (TG.ItC (n6, 0) (m, 0) sk ats ate fs x :: c :: SlC s LF.sz (LF.flat us) :: R) h' →
      wp Try.prog (.call fn_ig_Release [.c (.addr (n6, 0))] true [] fun _ => .done .ret [.c (.sl s.1 s.2.1 s.2.2)]) (Ret (TR false [.c .sl] fun r h' => ∃ post, (∃ (s : SlT) (us : List (Option IV)), r = (s, ()) ∧ OwnL LF s us ∧ us.length = ms.length ∧ (∀ i : Nat, (itK o (treeO o xs) (-1) ms)[i]? = some true → us[i]? = (itF o (treeO o xs) (-1) ms)[i]?) ∧ post = [c, SlC s LF.sz (LF.flat us)]) ∧ St h G post h')) h' := by
    intro h' s us sk ats ate fs x R h1 h2 h3 S
    refine st_callT (cs := [TG.ItC (n6, 0) (m, 0) sk ats ate fs x]) S [.ck (TG.ItC (n6, 0) (m, 0) sk ats ate fs x)] (fun G hG => c_Release hG) ?_
    rintro _ _ _ rfl S
    dsimp only [List.cons_append, List.nil_append] at S
    exact rt_1 rfl ⟨_, ⟨s, us, rfl, h1, h2, h3, rfl⟩, S.only [.ck c, .sl s]⟩
  rcases TG.open_map (S.at (.mp (m, 0))) with ⟨ctr, mn', mx', hl0, hg, S⟩ | ⟨ctr, nn, b, t, hlt, hs, hv, hi, hg, S⟩
  · have S := S.only [.ck (TG.ItC (n6, 0) (m, 0) false false false [] (0, 0)), .ck c, .ow (m, 0)]
    rw [hl0] at fin ⊢
    refine st_callS S [.ck (TG.ItC (n6, 0) (m, 0) false false false [] (0, 0)), .ck c] (fun G' B' hG' hB' hd' hsub' => c_moved (tr := (m, 0)) (o := o) (ops_em (a := (n6, 0))) hm hml ⟨by decide, rfl, rfl, rfl⟩ (bes hB' hd' rfl) hG') ?_
    rintro _ _ _ ⟨s, us, sk, ats, ate, fs, x, rfl, h1, h2, h3, rfl⟩ S
    dsimp only [List.cons_append, List.nil_append] at S
    exact fin h1 h2 h3 S
  · rw [← hlt] at fin ⊢
    rw [← hlt] at hs
    have hnl := TG.ht_le hg.2.1 nn t hv hi
    have htl2 : (flatB nn t).length ≤ 2147483647 := by rw [hlt]; omega
    have S := S.only [.ck (TG.ItC (n6, 0) (m, 0) false false false [] (0, 0)), .ck c, .ck (OcC f o), .ow (m, 0), .tr b]
    refine st_callS S [.ck (TG.ItC (n6, 0) (m, 0) false false false [] (0, 0)), .ck c] (fun G' B' hG' hB' hd' hsub' => c_moved (ops_tree (a := (n6, 0)) (tr := (m, 0)) (oc := OcC f o) (iso := 1) (b0 := b) (mn := TG.dgOf d) (mx := 2 * TG.dgOf d + 1) (F := fun r k u => Bes (TrC TG.L 1 r k u) _ G') (lss_before (f := f) hl) hs) hm hml ⟨.inl rfl, fun h => absurd h (by decide)⟩
        ⟨⟨TG.Fw.mk', bes hB' hd' rfl, bes hB' hd' rfl, bes_mem hB' hd' (TrC TG.L 1 nn b t) (by simp), hv, hg.2.1, hi, hg.2.2, by omega⟩, bes_mem hB' hd' (OcC f o) (by simp), bes hB' hd' rfl⟩ hG') ?_
    rintro _ _ _ ⟨s, us, sk, ats, ate, fs, x, rfl, h1, h2, h3, rfl⟩ S
    dsimp only [List.cons_append, List.nil_append] at S
    exact fin h1 h2 h3 S
theorem c_gIter {c : Ck} {o : List Int} {op : Option PA} {on oc : Nat} (hr : Rdr c (op, on, oc) LN o) (hl : o.length ≤ 2147483647) {d : Int} {nl : Bool} (hd : d ≤ 128) {xs : List IV} {sp : Option PA} {n cap : Nat} (hx : Rdr c (sp, n, cap) LT xs) (hxl : xs.length ≤ 2147483647) {ms : List MV} {mp : Option PA} {mn mc : Nat} (hm : Rdr c (mp, mn, mc) LM ms) (hml : ms.length ≤ 2147483647) {G : PA → Prop} (hG : Star [c] h G) :
    HT Try.prog fn_laws_gIter [.agg [.sl op on oc, .int .i64 d, .bool nl], .c (.sl sp n cap), .c (.sl mp mn mc)] false [.c .bool] h fun r h' => ∃ post, (r = (true, ()) ∧ post = [c]) ∧ St h G post h' := by
  apply hc_laws_gIter
  unfold M_laws_gIter
  have htl := treeO_len o xs
  refine st_alloc (St.start hG) fun n0 _ S => ?_
  (refine ld_sl S op on oc rfl (ld_int S rfl (ld_bool S rfl ?_)))
  refine st_callT S [.ck c] (fun G hG => c_GIterI hr hl hd hx hxl hm (by omega) hG) ?_
  rintro _ _ _ ⟨s1, us, rfl, h1, h2, h3, rfl⟩ S
  dsimp only [List.cons_append, List.nil_append] at S
  refine ld_sl S op on oc rfl (ld_sl S op on oc rfl ?_)
  refine st_callT S [.ck c] (fun G hG => c_Tree hr hl hx (by omega) hG) ?_
  rintro _ _ _ ⟨s2, rfl, g2, rfl⟩ S
  dsimp only [List.cons_append, List.nil_append] at S
  refine st_held S rfl ?_
  (have S := S.ats [.ck c, .sl s2]; refine st_callT (l := StC [c, SlC s2 LT.sz (LT.flat (treeO o xs))] :: _) (St.st_in (m := [_, _]) S) [.ck (StC [c, SlC s2 LT.sz (LT.flat (treeO o xs))])] (fun G hG => c_specIter (Rdr.st (i := 0) rfl hr) hl (Rdr.st (i := 1) rfl g2.rdr) (by omega) (Rdr.st (i := 0) rfl hm) (by omega) hG) ?_)
  rintro _ _ _ ⟨s3, s4, rfl, g3, g4, rfl⟩ S
  dsimp only [List.cons_append, List.nil_append] at S
  have S := St.st_out S
  dsimp only [List.cons_append, List.nil_append] at S
  have S := St.st_in (m := [SlC s1 LF.sz (LF.flat us), SlC s3 LF.sz (LF.flat (itF o (treeO o xs) (-1) ms)), SlC s4 LD.sz (LD.flat (itK o (treeO o xs) (-1) ms))]) (S.ats [.sl s1, .sl s3, .sl s4])
  refine st_callT S [.ck (StC [SlC s1 LF.sz (LF.flat us), SlC s3 LF.sz (LF.flat (itF o (treeO o xs) (-1) ms)), SlC s4 LD.sz (LD.flat (itK o (treeO o xs) (-1) ms))])] (fun G hG => c_sameMoves (Rdr.st (i := 0) rfl h1.rdr) (Rdr.st (i := 1) rfl g3.rdr) (Rdr.st (i := 2) rfl g4.rdr) (by rw [itF_len]; exact h2) (by rw [itK_len]; omega) h3 (by omega) hG) ?_
  rintro _ _ _ ⟨rfl, rfl⟩ S
  dsimp only [List.cons_append, List.nil_append] at S
  exact rt_1 rfl ⟨_, ⟨rfl, rfl⟩, S.only [.ck c]⟩
def exMv : List MV := [(1, 0, 0), (3, 0, 0), (4, 4, 0), (2, 0, 0), (5, 1, 0), (0, 0, 0)]
set_option maxHeartbeats 1000000 in
theorem c_FnExactGIter {hI : H} {o : List Int} {op : Option PA} {on oc : Nat} (hr : Rdr (BaC hI) (op, on, oc) LN o) {d : Int} {nl : Bool} {xs : List IV} {sp : Option PA} {n cap : Nat} (hx : Rdr (BaC hI) (sp, n, cap) LT xs) {ms : List MV} {mp : Option PA} {mn mc : Nat} (hm : Rdr (BaC hI) (mp, mn, mc) LM ms) {G : PA → Prop} (hG : Star [BaC hI] h G) :
    HT Try.prog fn_laws_FnExactGIter [.agg [.sl op on oc, .int .i64 d, .bool nl], .c (.sl sp n cap), .c (.sl mp mn mc)] false [.c .bool] h fun r h' => ∃ post, (r = (true, ()) ∧ post = [BaC hI]) ∧ St h G post h' := by
  apply hc_laws_FnExactGIter
  unfold M_laws_FnExactGIter
  have hno : on = o.length := hr.1
  have hn : n = xs.length := hx.1
  refine st_alloc (St.start hG) fun n0 _ S => ?_
  skip
  refine w_mid' none (fun (y : SV [.c .bool]) h' => (y = (true, ()) ∨ y = (false, ()) ∧ on ≤ 2147483647 ∧ n ≤ 2147483647 ∧ mn ≤ 2147483647) ∧ St h G [Ow (n0, 0) (List.map Cell.val [.sl op on oc, .int .i64 d, .bool nl]) 0, BaC hI] h') ?_ ?_
  · refine ld_sl S op on oc rfl (ld_int S rfl (ld_bool S rfl ?_))
    refine st_callT S [] (fun G hG => c_zzFits1 hG) ?_
    rintro _ _ _ ⟨rfl, rfl⟩ S
    dsimp only [List.cons_append, List.nil_append] at S
    by_cases hbo : on > 2147483647
    · exact w_true (by rw [decide_eq_false (by (first | omega | ((try dsimp only [Sh.T, Sh1.T]); omega)))]; rfl) (md_n rfl ⟨.inl rfl, S.only [.ow (n0, 0), .ck (BaC hI)]⟩)
    refine w_false (by rw [decide_eq_true (by (first | omega | ((try dsimp only [Sh.T, Sh1.T]); omega)))]; rfl) ?_
    by_cases hb0 : n > 2147483647
    · exact w_true (decide_eq_true (by omega)) (md_n rfl ⟨.inl rfl, S.only [.ow (n0, 0), .ck (BaC hI)]⟩)
    refine w_false (decide_eq_false (by omega)) ?_
    by_cases hb1 : mn > 2147483647
    · exact md_n (x := (true, ())) (by rw [decide_eq_true (by omega)]; rfl) ⟨.inl rfl, S.only [.ow (n0, 0), .ck (BaC hI)]⟩
    exact md_n (x := (false, ())) (by rw [decide_eq_false (by omega)]; rfl) ⟨.inr ⟨rfl, by omega, by omega, by omega⟩, S.only [.ow (n0, 0), .ck (BaC hI)]⟩
  rintro _ _ ⟨rfl | ⟨rfl, hz0, hz1, hz2⟩, S⟩
  · exact w_true rfl (rt_1 rfl ⟨_, ⟨rfl, rfl⟩, S.only [.ck (BaC hI)]⟩)
  refine w_false rfl ?_
  refine w_mid' none (fun (y : SV [.c .bool]) h' => y = (true, ()) ∧ St h G [BaC hI] h') ?_ (fun _ _ ⟨e, S⟩ => by subst e; exact rt_1 rfl ⟨_, ⟨rfl, rfl⟩, S⟩)
  refine st_callT S [] (fun G hG => c_exMake hG) ?_
  rintro _ _ _ ⟨rfl, rfl⟩ S
  dsimp only [List.cons_append, List.nil_append] at S
  refine st_callT S [] (fun G hG => c_exItems hG) ?_
  rintro _ _ _ ⟨ne, rfl, rfl⟩ S
  dsimp only [List.cons_append, List.nil_append] at S
  (refine st_callT S [] (fun G hG => c_exMoves hG) ?_; rintro _ _ _ ⟨nk, rfl, rfl⟩ S; dsimp only [List.cons_append, List.nil_append] at S; have S := S.ats [.ow (ne, 0), .ow (nk, 0)])
  refine st_callT (l := StC [Ow (ne, 0) (LT.flat exI) 0, Ow (nk, 0) (LM.flat exMv) 0] :: _) (St.st_in (m := [_, _]) S) [.ck (StC [Ow (ne, 0) (LT.flat exI) 0, Ow (nk, 0) (LM.flat exMv) 0])] (fun G hG => c_gIter (o := []) Rdr.nil (by decide) (by decide) (Rdr.st (i := 0) rfl (Rdr.ow (xs := exI) rfl)) (by decide) (Rdr.st (i := 1) rfl (Rdr.ow (xs := exMv) rfl)) (by decide) hG) ?_
  rintro _ _ _ ⟨rfl, rfl⟩ S
  dsimp only [List.cons_append, List.nil_append] at S
  refine w_true rfl (ld_int S rfl ?_)
  refine w_callT c_Fits ?_
  rintro _ _ ⟨rfl, rfl⟩
  by_cases hf : d = 0 ∨ 2 ≤ d ∧ d ≤ 128
  · refine w_false (by rw [decide_eq_true hf]; rfl) ?_
    refine ld_sl S op on oc rfl (ld_int S rfl (ld_bool S rfl ?_))
    skip
    refine st_callT S [.ck (BaC hI)] (fun G hG => c_gIter hr (by omega) (by omega) hx (by omega) hm (by have := hm.1; dsimp only at this; omega) hG) ?_
    rintro _ _ _ ⟨rfl, rfl⟩ S
    dsimp only [List.cons_append, List.nil_append] at S
    exact md_n rfl ⟨rfl, S.only [.ck (BaC hI)]⟩
  · exact w_true (by rw [decide_eq_false hf]; rfl) (md_n rfl ⟨rfl, S.only [.ck (BaC hI)]⟩)
end
end Go.Proofs.Ytlmiafbcgfegpaa
