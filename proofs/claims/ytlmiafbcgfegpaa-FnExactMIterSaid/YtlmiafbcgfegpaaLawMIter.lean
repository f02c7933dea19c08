/-
  The law FnExactMIter. Conditions: none.
-/
import Derived.Test.YtlmiafbcgfegpaaPgI
import Derived.Test.YtlmiafbcgfegpaaMiw
import Derived.Test.YtlmiafbcgfegpaaGc
import Derived.Test.YtlmiafbcgfegpaaYsc
set_option linter.unusedVariables false
set_option linter.unusedSimpArgs false
set_option linter.unusedSectionVars false
set_option maxRecDepth 100000
namespace Go.Proofs.Ytlmiafbcgfegpaa
open Go
def M_impl_MIter (a0 : Int) (a1p : Option PA) (a1l : Nat) (a1c : Nat) (a2p : Option PA) (a2l : Nat) (a2c : Nat) : M :=
  .call fn_impl_growMap [.c (.int .i64 (a0)), .c (.sl (a1p) (a1l) (a1c))] false [.c (.ptr)] fun r0 =>
  .call fn_mi_Iter [.c (.ptr (r0.fst))] false [.agg [.ptr, .bool, .bool, .bool, .bool, .sl, .int .i64, .int .i64]] fun r1 =>
  .alloc ty_btree_MapIter_int_int [.ptr none, .ff, .ff, .ff, .ff, .sl none (0) (0), .int .i64 (0), .int .i64 (0)] fun n2 =>
  .store (n2, 0) (.ptr (r1.fst.fst)) <|
  .store (n2, 1) (.bool (r1.fst.snd.fst)) <|
  .store (n2, 2) (.bool (r1.fst.snd.snd.fst)) <|
  .store (n2, 3) (.bool (r1.fst.snd.snd.snd.fst)) <|
  .store (n2, 4) (.bool (r1.fst.snd.snd.snd.snd.fst)) <|
  .store (n2, 5) (.sl (r1.fst.snd.snd.snd.snd.snd.fst.fst) (r1.fst.snd.snd.snd.snd.snd.fst.snd.fst) (r1.fst.snd.snd.snd.snd.snd.fst.snd.snd)) <|
  .store (n2, 6) (.int .i64 (r1.fst.snd.snd.snd.snd.snd.snd.fst)) <|
  .store (n2, 7) (.int .i64 (r1.fst.snd.snd.snd.snd.snd.snd.snd.fst)) <|
  .call fn_impl_movedMap [.c (.addr (n2, 0)), .c (.sl (a2p) (a2l) (a2c))] false [.c (.sl)] fun r3 =>
  .done .ret [.c (.sl (r3.fst.fst) (r3.fst.snd.fst) (r3.fst.snd.snd))]
theorem den_impl_MIter (a0 : Int) (a1p : Option PA) (a1l : Nat) (a1c : Nat) (a2p : Option PA) (a2l : Nat) (a2c : Nat) : denFn Try.prog Try.f45 [.c (.int .i64 a0), .c (.sl a1p a1l a1c), .c (.sl a2p a2l a2c)] = M_impl_MIter a0 a1p a1l a1c a2p a2l a2c := by kernel_rfl
theorem hc_impl_MIter (a0 : Int) (a1p : Option PA) (a1l : Nat) (a1c : Nat) (a2p : Option PA) (a2l : Nat) (a2c : Nat) {h : H} {R : Value → H → Prop} (hw : wp Try.prog (M_impl_MIter a0 a1p a1l a1c a2p a2l a2c) (Ret R) h) : HC Try.prog fn_impl_MIter (List.map AV.val [.c (.int .i64 a0), .c (.sl a1p a1l a1c), .c (.sl a2p a2l a2c)]).toArray h R :=
  den_calls hmix Try.func45 (of_decide_eq_true rfl) (by rw [den_impl_MIter]; exact hw)
def M_laws_mIter (a0 : Int) (a1p : Option PA) (a1l : Nat) (a1c : Nat) (a2p : Option PA) (a2l : Nat) (a2c : Nat) : M :=
  .call fn_impl_MIter [.c (.int .i64 (a0)), .c (.sl (a1p) (a1l) (a1c)), .c (.sl (a2p) (a2l) (a2c))] false [.c (.sl)] fun r0 =>
  .call fn_spec_Tree [.c (.sl none (0) (0)), .c (.sl (a1p) (a1l) (a1c))] false [.c (.sl)] fun r1 =>
  .call fn_spec_Iter [.c (.sl none (0) (0)), .c (.sl (r1.fst.fst) (r1.fst.snd.fst) (r1.fst.snd.snd)), .c (.sl (a2p) (a2l) (a2c))] true [.c (.sl), .c (.sl)] fun r2 =>
  .call fn_laws_sameMoves [.c (.sl (r0.fst.fst) (r0.fst.snd.fst) (r0.fst.snd.snd)), .c (.sl (r2.fst.fst) (r2.fst.snd.fst) (r2.fst.snd.snd)), .c (.sl (r2.snd.fst.fst) (r2.snd.fst.snd.fst) (r2.snd.fst.snd.snd))] false [.c (.bool)] fun r3 =>
  .done .ret [.c (.bool (r3.fst))]
theorem den_laws_mIter (a0 : Int) (a1p : Option PA) (a1l : Nat) (a1c : Nat) (a2p : Option PA) (a2l : Nat) (a2c : Nat) : denFn Try.prog Try.f25 [.c (.int .i64 a0), .c (.sl a1p a1l a1c), .c (.sl a2p a2l a2c)] = M_laws_mIter a0 a1p a1l a1c a2p a2l a2c := by kernel_rfl
theorem hc_laws_mIter (a0 : Int) (a1p : Option PA) (a1l : Nat) (a1c : Nat) (a2p : Option PA) (a2l : Nat) (a2c : Nat) {h : H} {R : Value → H → Prop} (hw : wp Try.prog (M_laws_mIter a0 a1p a1l a1c a2p a2l a2c) (Ret R) h) : HC Try.prog fn_laws_mIter (List.map AV.val [.c (.int .i64 a0), .c (.sl a1p a1l a1c), .c (.sl a2p a2l a2c)]).toArray h R :=
  den_calls hmix Try.func25 (of_decide_eq_true rfl) (by rw [den_laws_mIter]; exact hw)
def M_laws_FnExactMIter (a0 : Int) (a1p : Option PA) (a1l : Nat) (a1c : Nat) (a2p : Option PA) (a2l : Nat) (a2c : Nat) : M :=
  .bind none (.ite (decide ((↑a1l : Int) > 2147483647))
    (.done .normal [.c (.tt)])
    (.done .normal [.c (.bool (decide ((↑a2l : Int) > 2147483647)))])) [.c (.bool)] fun x0 =>
  .ite (x0.fst)
  (.done .ret [.c (.tt)])
  (.bind none (.call fn_laws_exItems [] false [.c (.sl)] fun r1 =>
      .call fn_laws_exMoves [] false [.c (.sl)] fun r2 =>
      .call fn_laws_mIter [.c (.int .i64 (2)), .c (.sl (r1.fst.fst) (r1.fst.snd.fst) (r1.fst.snd.snd)), .c (.sl (r2.fst.fst) (r2.fst.snd.fst) (r2.fst.snd.snd))] false [.c (.bool)] fun r3 =>
      .ite (r3.fst)
      (.call fn_spec_Fits [.c (.int .i64 (a0))] false [.c (.bool)] fun r4 =>
        .ite (r4.fst)
        (.ite (!decide (a0 > 0))
          (.done .normal [.c (.tt)])
          (.call fn_laws_mIter [.c (.int .i64 (a0)), .c (.sl (a1p) (a1l) (a1c)), .c (.sl (a2p) (a2l) (a2c))] false [.c (.bool)] fun r5 =>
            .done .normal [.c (.bool (r5.fst))]))
        (.done .normal [.c (.tt)]))
      (.done .normal [.c (.ff)])) [.c (.bool)] fun x6 =>
    .done .ret [.c (.bool (x6.fst))])
theorem den_laws_FnExactMIter (a0 : Int) (a1p : Option PA) (a1l : Nat) (a1c : Nat) (a2p : Option PA) (a2l : Nat) (a2c : Nat) : denFn Try.prog Try.f5 [.c (.int .i64 a0), .c (.sl a1p a1l a1c), .c (.sl a2p a2l a2c)] = M_laws_FnExactMIter a0 a1p a1l a1c a2p a2l a2c := by kernel_rfl
theorem hc_laws_FnExactMIter (a0 : Int) (a1p : Option PA) (a1l : Nat) (a1c : Nat) (a2p : Option PA) (a2l : Nat) (a2c : Nat) {h : H} {R : Value → H → Prop} (hw : wp Try.prog (M_laws_FnExactMIter a0 a1p a1l a1c a2p a2l a2c) (Ret R) h) : HC Try.prog fn_laws_FnExactMIter (List.map AV.val [.c (.int .i64 a0), .c (.sl a1p a1l a1c), .c (.sl a2p a2l a2c)]).toArray h R :=
  den_calls hmix Try.func5 (of_decide_eq_true rfl) (by rw [den_laws_FnExactMIter]; exact hw)
abbrev ItSM : List Sh1 := [.ptr, .bool, .bool, .bool, .bool, .sl, .int .i64, .int .i64]
def itM (q : PA) : SV1 ItSM := (some q, false, false, false, false, (none, 0, 0), 0, 0, ())
section
variable {h : H}
theorem bes_memM {h : H} {G B : PA → Prop} {l : List Ck} (hB : Star l h B) (hd : dj G B) (c : Ck) (hc : c ∈ l) : Bes c h G := by
  obtain ⟨F, g1, g2⟩ := star_mem hB c hc
  exact ⟨F, g1, hd.symm.sub g2 fun _ hx => hx⟩
set_option maxHeartbeats 4000000 in
theorem c_miter0 {a0 : PA} {G : PA → Prop} (hG : Star [] h G) :
    HT Try.prog fn_mi_iter [.c (.addr a0), .c (.bool false)] false [.agg ItSM] h fun r h' => ∃ post, (r = (itM a0, ()) ∧ post = []) ∧ St h G post h' := by
  apply hc_mi_iter
  unfold M_mi_iter
  refine st_alloc (St.start hG) fun n0 _ S => ?_
  refine st_alloc S fun n1 _ S => ?_
  refine st_store S (lt_ble rfl) fun _ S => st_store S (lt_ble rfl) fun _ S => ?_
  refine ld_some S rfl (ld_bool S rfl (ld_bool S rfl (ld_bool S rfl (ld_bool S rfl (ld_sl S none 0 0 rfl (ld_int S rfl (ld_int S rfl ?_)))))))
  refine st_store S (lt_ble rfl) fun _ S => st_store S (lt_ble rfl) fun _ S => st_store S (lt_ble rfl) fun _ S => st_store S (lt_ble rfl) fun _ S => st_store S (lt_ble rfl) fun _ S => st_store S (lt_ble rfl) fun _ S => st_store S (lt_ble rfl) fun _ S => st_store S (lt_ble rfl) fun _ S => ?_
  refine ld_some S rfl (ld_bool S rfl (ld_bool S rfl (ld_bool S rfl (ld_bool S rfl (ld_sl S none 0 0 rfl (ld_int S rfl (ld_int S rfl ?_)))))))
  exact rt_1 rfl ⟨_, ⟨rfl, rfl⟩, S.only []⟩
set_option maxHeartbeats 4000000 in
theorem c_mIterF {a0 : PA} {G : PA → Prop} (hG : Star [] h G) :
    HT Try.prog fn_mi_Iter [.c (.addr a0)] false [.agg ItSM] h fun r h' => ∃ post, (r = (itM a0, ()) ∧ post = []) ∧ St h G post h' := by
  apply hc_mi_Iter
  unfold M_mi_Iter
  refine st_alloc (St.start hG) fun n0 _ S => ?_
  refine st_callT S [] (fun G hG => c_miter0 hG) ?_
  rintro _ _ _ ⟨rfl, rfl⟩ S
  dsimp only [List.cons_append, List.nil_append] at S
  dsimp only [itM]
  refine st_store S (lt_ble rfl) fun _ S => st_store S (lt_ble rfl) fun _ S => st_store S (lt_ble rfl) fun _ S => st_store S (lt_ble rfl) fun _ S => st_store S (lt_ble rfl) fun _ S => st_store S (lt_ble rfl) fun _ S => st_store S (lt_ble rfl) fun _ S => st_store S (lt_ble rfl) fun _ S => ?_
  refine ld_some S rfl (ld_bool S rfl (ld_bool S rfl (ld_bool S rfl (ld_bool S rfl (ld_sl S none 0 0 rfl (ld_int S rfl (ld_int S rfl ?_)))))))
  exact rt_1 rfl ⟨_, ⟨rfl, rfl⟩, S.only []⟩
set_option maxHeartbeats 4000000 in
theorem c_MIterI {c : Ck} {d : Int} (hd : d ≤ 128) {xs : List IV} {sp : Option PA} {n cap : Nat} (hx : Rdr c (sp, n, cap) LT xs) (hxl : xs.length ≤ 2147483647) {ms : List MV} {mp : Option PA} {mn mc : Nat} (hm : Rdr c (mp, mn, mc) LM ms) (hml : ms.length ≤ 2147483648) {G : PA → Prop} (hG : Star [c] h G) :
    HT Try.prog fn_impl_MIter [.c (.int .i64 d), .c (.sl sp n cap), .c (.sl mp mn mc)] false [.c .sl] h fun r h' => ∃ post, (∃ (s : SlT) (us : List (Option IV)), r = (s, ()) ∧ OwnL LF s us ∧ us.length = ms.length ∧ (∀ i : Nat, (itK [] (treeO [] xs) (-1) ms)[i]? = some true → us[i]? = (itF [] (treeO [] xs) (-1) ms)[i]?) ∧ post = [c, SlC s LF.sz (LF.flat us)]) ∧ St h G post h' := by
  apply hc_impl_MIter
  unfold M_impl_MIter
  have htl := treeO_len [] xs
  have hdg : 2 * MI.dgOf d + 1 ≤ 255 := by unfold MI.dgOf; split <;> (try split) <;> omega
  refine st_callT (St.start hG) [.ck c] (fun G hG => c_growMap (by omega) hx hxl hG) ?_
  rintro _ _ _ ⟨m, rfl, rfl⟩ S
  dsimp only [List.cons_append, List.nil_append] at S
  refine st_callV S [] (args' := [.c (.addr (m, 0))]) rfl (fun G hG => c_mIterF hG) ?_
  rintro _ _ _ ⟨rfl, rfl⟩ S
  dsimp only [List.cons_append, List.nil_append] at S
  dsimp only [itM]
  refine st_alloc S fun n6 _ S => ?_
  refine st_store S (lt_ble rfl) fun _ S => st_store S (lt_ble rfl) fun _ S => st_store S (lt_ble rfl) fun _ S => st_store S (lt_ble rfl) fun _ S => st_store S (lt_ble rfl) fun _ S => st_store S (lt_ble rfl) fun _ S => st_store S (lt_ble rfl) fun _ S => st_store S (lt_ble rfl) fun _ S => ?_
  dsimp only [List.map, List.set, Cell.val] at S
  have S := sl_nil MI.LFr S
  have S := S.ats [.ow (n6, 0), .sl (none, 0, 0)]
  have S := MI.shut_itS (a := (n6, 0)) (tr := (m, 0)) (sk := false) (ats := false) (ate := false) (fs := []) (x := (0, 0)) (t := (none, 0, 0)) S ⟨rfl, Nat.le_refl _, .inl rfl⟩
  have S := S.only [.ck (MI.ItC (n6, 0) (m, 0) false false false [] (0, 0)), .ck c, .mp (m, 0)]
  rcases MI.open_map (S.at (.mp (m, 0))) with ⟨ctr, mn', mx', hl0, hg, S⟩ | ⟨ctr, nn, b, t, hlt, hs, hv, hi, hg, S⟩
  · have S := S.only [.ck (MI.ItC (n6, 0) (m, 0) false false false [] (0, 0)), .ck c, .ow (m, 0)]
    rw [hl0]
    refine st_callS S [.ck (MI.ItC (n6, 0) (m, 0) false false false [] (0, 0)), .ck c] (fun G' B' hG' hB' hd' hsub' => MI.c_moved (tr := (m, 0)) (o := []) (MI.ops_em (a := (n6, 0))) hm hml ⟨by decide, rfl, rfl, rfl⟩ (bes hB' hd' rfl) hG') ?_
    rintro _ _ _ ⟨s, us, sk, ats, ate, fs, x, rfl, h1, h2, h3, rfl⟩ S
    dsimp only [List.cons_append, List.nil_append] at S
    exact rt_1 rfl ⟨_, ⟨s, us, rfl, h1, h2, h3, rfl⟩, S.only [.ck c, .sl s]⟩
  · rw [← hlt]
    rw [← hlt] at hs htl
    have htl2 : (flatB nn t).length ≤ 2147483647 := by omega
    have hnl := TG.ht_le (show 1 ≤ MI.dgOf d from hg.2.1) nn t hv hi
    have S := S.only [.ck (MI.ItC (n6, 0) (m, 0) false false false [] (0, 0)), .ck c, .ow (m, 0), .tr b]
    refine st_callS S [.ck (MI.ItC (n6, 0) (m, 0) false false false [] (0, 0)), .ck c] (fun G' B' hG' hB' hd' hsub' => MI.c_moved (MI.ops_tree (a := (n6, 0)) (tr := (m, 0)) (iso := 0) (b0 := b) (mn := MI.dgOf d) (mx := 2 * MI.dgOf d + 1) (F := fun r k u => Bes (TrC MI.L 0 r k u) _ G') hs) hm hml ⟨.inl rfl, fun h => absurd h (by decide)⟩
        ⟨MI.Fw.mk', bes hB' hd' rfl, bes hB' hd' rfl, bes_memM hB' hd' (TrC MI.L 0 nn b t) (by simp), hv, hg.2.1, hi, by omega, by omega⟩ hG') ?_
    rintro _ _ _ ⟨s, us, sk, ats, ate, fs, x, rfl, h1, h2, h3, rfl⟩ S
    dsimp only [List.cons_append, List.nil_append] at S
    exact rt_1 rfl ⟨_, ⟨s, us, rfl, h1, h2, h3, rfl⟩, S.only [.ck c, .sl s]⟩
theorem c_mIter {c : Ck} {d : Int} (hd : d ≤ 128) {xs : List IV} {sp : Option PA} {n cap : Nat} (hx : Rdr c (sp, n, cap) LT xs) (hxl : xs.length ≤ 2147483647) {ms : List MV} {mp : Option PA} {mn mc : Nat} (hm : Rdr c (mp, mn, mc) LM ms) (hml : ms.length ≤ 2147483647) {G : PA → Prop} (hG : Star [c] h G) :
    HT Try.prog fn_laws_mIter [.c (.int .i64 d), .c (.sl sp n cap), .c (.sl mp mn mc)] false [.c .bool] h fun r h' => ∃ post, (r = (true, ()) ∧ post = [c]) ∧ St h G post h' := by
  apply hc_laws_mIter
  unfold M_laws_mIter
  have htl := treeO_len [] xs
  have S := St.start hG
  refine st_callT S [.ck c] (fun G hG => c_MIterI hd hx hxl hm (by omega) hG) ?_
  rintro _ _ _ ⟨s1, us, rfl, h1, h2, h3, rfl⟩ S
  dsimp only [List.cons_append, List.nil_append] at S
  refine st_callT S [.ck c] (fun G hG => c_Tree Rdr.nil (by decide) hx (by omega) hG) ?_
  rintro _ _ _ ⟨s2, rfl, g2, rfl⟩ S
  dsimp only [List.cons_append, List.nil_append] at S
  (have S := S.ats [.ck c, .sl s2]; refine st_callT (l := StC [c, SlC s2 LT.sz (LT.flat (treeO [] xs))] :: _) (St.st_in (m := [_, _]) S) [.ck (StC [c, SlC s2 LT.sz (LT.flat (treeO [] xs))])] (fun G hG => c_specIter Rdr.nil (by decide) (Rdr.st (i := 1) rfl g2.rdr) (by omega) (Rdr.st (i := 0) rfl hm) (by omega) hG) ?_)
  rintro _ _ _ ⟨s3, s4, rfl, g3, g4, rfl⟩ S
  dsimp only [List.cons_append, List.nil_append] at S
  have S := St.st_out S
  dsimp only [List.cons_append, List.nil_append] at S
  have S := St.st_in (m := [SlC s1 LF.sz (LF.flat us), SlC s3 LF.sz (LF.flat (itF [] (treeO [] xs) (-1) ms)), SlC s4 LD.sz (LD.flat (itK [] (treeO [] xs) (-1) ms))]) (S.ats [.sl s1, .sl s3, .sl s4])
  refine st_callT S [.ck (StC [SlC s1 LF.sz (LF.flat us), SlC s3 LF.sz (LF.flat (itF [] (treeO [] xs) (-1) ms)), SlC s4 LD.sz (LD.flat (itK [] (treeO [] xs) (-1) ms))])] (fun G hG => c_sameMoves (Rdr.st (i := 0) rfl h1.rdr) (Rdr.st (i := 1) rfl g3.rdr) (Rdr.st (i := 2) rfl g4.rdr) (by rw [itF_len]; exact h2) (by rw [itK_len]; omega) h3 (by omega) hG) ?_
  rintro _ _ _ ⟨rfl, rfl⟩ S
  dsimp only [List.cons_append, List.nil_append] at S
  exact rt_1 rfl ⟨_, ⟨rfl, rfl⟩, S.only [.ck c]⟩
def exMv2 : List MV := [(1, 0, 0), (3, 0, 0), (4, 4, 0), (2, 0, 0), (5, 1, 0), (0, 0, 0)]
theorem c_FnExactMIter {hI : H} {d : Int} {xs : List IV} {sp : Option PA} {n cap : Nat} (hx : Rdr (BaC hI) (sp, n, cap) LT xs) {ms : List MV} {kp : Option PA} {kn kc : Nat} (hk : Rdr (BaC hI) (kp, kn, kc) LM ms) {G : PA → Prop} (hG : Star [BaC hI] h G) :
    HT Try.prog fn_laws_FnExactMIter [.c (.int .i64 d), .c (.sl sp n cap), .c (.sl kp kn kc)] false [.c .bool] h fun r h' => ∃ post, (r = (true, ()) ∧ post = [BaC hI]) ∧ St h G post h' := by
  apply hc_laws_FnExactMIter
  unfold M_laws_FnExactMIter
  have hn : n = xs.length := hx.1
  have hkn : kn = ms.length := hk.1
  have S := St.start hG
  refine w_bnd ?_
  by_cases hbig : n > 2147483647
  · exact w_true (decide_eq_true (by omega)) (bd_n rfl (w_true rfl (rt_1 rfl ⟨_, ⟨rfl, rfl⟩, S⟩)))
  refine w_false (decide_eq_false (by omega)) (bd_n rfl ?_)
  by_cases hkbig : kn > 2147483647
  · exact w_true (decide_eq_true (by omega)) (rt_1 rfl ⟨_, ⟨rfl, rfl⟩, S⟩)
  · refine w_false (decide_eq_false (by omega)) (w_bnd ?_)
    refine st_callT S [] (fun G hG => c_exItems hG) ?_
    rintro _ _ _ ⟨ne, rfl, rfl⟩ S
    dsimp only [List.cons_append, List.nil_append] at S
    refine st_callT S [] (fun G hG => c_exMoves hG) ?_
    rintro _ _ _ ⟨n2, rfl, rfl⟩ S
    dsimp only [List.cons_append, List.nil_append] at S
    have S := (S.ats [.ow (ne, 0), .ow (n2, 0)])
    refine st_callT (l := StC [Ow (ne, 0) (LT.flat exI) 0, Ow (n2, 0) (LM.flat exMv2) 0] :: _) (St.st_in (m := [_, _]) S) [.ck (StC [Ow (ne, 0) (LT.flat exI) 0, Ow (n2, 0) (LM.flat exMv2) 0])] (fun G hG => c_mIter (d := 2) (xs := exI) (ms := exMv2) (by omega) (Rdr.st (i := 0) rfl (Rdr.ow (xs := exI) rfl)) (by decide) (Rdr.st (i := 1) rfl (Rdr.ow (xs := exMv2) rfl)) (by decide) hG) ?_
    rintro _ _ _ ⟨rfl, rfl⟩ S
    dsimp only [List.cons_append, List.nil_append] at S
    have S := St.st_out S
    dsimp only [List.cons_append, List.nil_append] at S
    refine w_true rfl ?_
    refine st_callR S [] (fun G hG => c_Fits) ?_
    rintro _ rfl
    by_cases hf : d = 0 ∨ 2 ≤ d ∧ d ≤ 128
    · refine w_true (decide_eq_true hf) ?_
      by_cases h0 : d > 0
      · refine w_false (by rw [decide_eq_true h0]; rfl) ?_
        refine st_callT S [.ck (BaC hI)] (fun G hG => c_mIter (d := d) (by omega) hx (by omega) hk (by omega) hG) ?_
        rintro _ _ _ ⟨rfl, rfl⟩ S
        dsimp only [List.cons_append, List.nil_append] at S
        exact bd_n rfl (rt_1 rfl ⟨_, ⟨rfl, rfl⟩, S.only [.ck (BaC hI)]⟩)
      · exact w_true (by rw [decide_eq_false h0]; rfl) (bd_n rfl (rt_1 rfl ⟨_, ⟨rfl, rfl⟩, S.only [.ck (BaC hI)]⟩))
    · exact w_false (decide_eq_false hf) (bd_n rfl (rt_1 rfl ⟨_, ⟨rfl, rfl⟩, S.only [.ck (BaC hI)]⟩))
end
end Go.Proofs.Ytlmiafbcgfegpaa
